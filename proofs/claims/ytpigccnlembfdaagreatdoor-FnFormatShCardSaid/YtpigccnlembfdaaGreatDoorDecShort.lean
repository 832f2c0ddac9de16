/- The walk of a decimal's short, at the decimal of a half: nothing shorter will do. Conditions: as the theorem states. -/
import Derived.Test.YtpigccnlembfdaaGreatDoorNear
namespace Go.Proofs.YtpigccnlembfdaaGreatDoor
open Go.RowKit

theorem below_cell {w w' : World} {b i : Nat} {v : Value} (hB : Below w.heap.size w w') (hlt : b < w.heap.size) (h : w.cell? ⟨b, i, none⟩ = some v) : w'.cell? ⟨b, i, none⟩ = some v := (hB.cell hlt).trans h
/-- The form's box. -/
def InfoAt (w : World) (b : Nat) : Prop := b < w.heap.size ∧ w.cell? ⟨b, 0, none⟩ = some (.int .i64 52) ∧ w.cell? ⟨b, 2, none⟩ = some (.int .i64 (-1023))
theorem InfoAt.below {w w' : World} {b : Nat} (h : InfoAt w b) (hB : Below w.heap.size w w') : InfoAt w' b := ⟨Nat.lt_of_lt_of_le h.1 hB.size, below_cell hB h.1 h.2.1, below_cell hB h.1 h.2.2⟩
theorem info_new (w : World) (t : TypeId) : InfoAt (w.alloc (.cells #[.int .i64 52, .int .i64 11, .int .i64 (-1023)] t)) w.heap.size :=
  ⟨by simp, by rw [cell_of_row _ w.heap.size 0 _ _ _ (heap_alloc_new w _)]; rfl, by rw [cell_of_row _ w.heap.size 2 _ _ _ (heap_alloc_new w _)]; rfl⟩
set_option maxRecDepth 100000 in
set_option maxHeartbeats 8000000 in
theorem short_any (w : World) (p N k mant : Nat) (v : Value) (h : DecAt w p (digN N ++ [5]) (digN N).length v) (hN : N < 9007199254740992) (hk1 : 1 ≤ k) (hk : k ≤ 53) (hm : mant = (2 * N + 1) * 2 ^ (k - 1)) (hm1 : 4503599627370496 ≤ mant) (hm2 : mant < 9007199254740992) (x : Int) (hx : x = 52 - (k : Int)) :
    Calls Tryz.prog 118 #[.pointer (some ⟨p, 0, none⟩), .int .u64 mant, .int .i64 x, .agg #[.int .i64 52, .int .i64 11, .int .i64 (-1023)]] w (fun e w' => e = .returned (.pointer (some ⟨p, 0, none⟩)) ∧ Below w.heap.size w w') := by
  obtain ⟨m, hM⟩ : ∃ m, m = (digN N ++ [5]).length := ⟨_, rfl⟩
  have hM2 : (digN N).length + 1 = m := by rw [hM]; simp
  have hm17 : m ≤ 17 := by have := digN_len hN; omega
  have HM := Lib.hid (And.intro hM hM2)
  have HA := Lib.hid h
  have HMT := Lib.hid hm
  have HK1 := Lib.hid hk1
  have hnz : ((mant : Int) == 0) = false := by rw [beq_eq_false_iff_ne]; omega
  obtain ⟨a1, ha1⟩ : ∃ a1, a1 = 2 * mant + 1 := ⟨_, rfl⟩
  obtain ⟨a2, ha2⟩ : ∃ a2, a2 = 2 * mant - 1 := ⟨_, rfl⟩
  obtain ⟨a3, ha3⟩ : ∃ a3, a3 = 4 * mant - 1 := ⟨_, rfl⟩
  have HNDh := Lib.hid (fun w' => newDecimal_any w' a1 (by omega) (by omega))
  have HNDl := Lib.hid (fun w' => newDecimal_any w' a2 (by omega) (by omega))
  have HNDq := Lib.hid (fun w' => newDecimal_any w' a3 (by omega) (by omega))
  have HA1 := Lib.hid ha1
  have HA2 := Lib.hid ha2
  have HA3 := Lib.hid ha3
  have NH := Lib.hid (fun (L : List Nat) (dp : Int) (h : 1 ≤ k) (hd : Dm L dp a1 (1 * 2 ^ (k + 1))) => near_high (N := N) h (by rw [← hm, ← ha1]; exact hd))
  have NL := Lib.hid (fun (L : List Nat) (dp : Int) (h : 1 ≤ k) (hd : Dm L dp a2 (1 * 2 ^ (k + 1))) => near_low (N := N) h (by rw [← hm, ← ha2]; exact hd))
  have NQ := Lib.hid (fun (L : List Nat) (dp : Int) (h : 1 ≤ k) (hd : Dm L dp a3 (1 * 2 ^ (k + 2))) => near_low2 (N := N) h (by rw [← hm, ← ha3]; exact hd))
  have hz1 : 2 * (mant : Int) + 1 = (a1 : Int) := by omega
  have hz2 : 2 * (mant : Int) - 1 = (a2 : Int) := by omega
  have hz3 : 4 * (mant : Int) - 1 = (a3 : Int) := by omega
  have HXh := Lib.hid (show x - 52 - 1 = -((k + 1 : Nat) : Int) by omega)
  have HXl := HXh
  have HXq := Lib.hid (show x - 52 - 2 = -((k + 2 : Nat) : Int) by omega)
  have hbi : (-1023 + 1 : Int) < x := by omega
  have hx0 : -1 ≤ x := by omega
  have hx1 : x ≤ 51 := by omega
  have hp1 : 0 < a1 := by omega
  have hp2 : 0 < a2 := by omega
  have hp3 : 0 < a3 := by omega
  have hE : (mant : Int) % 2 = 0 ∨ (mant : Int) % 2 = 1 := by omega
  have HE := Lib.hid hE
  clear hE ha1 ha2 ha3 hM hM2 h hm hx
  go_enter Tryz.func118, Tryz.ntmps118
  go_wp2_with fail
  have I0 := Lib.hid (info_new w 177)
  have B0 := Lib.hid ((Below.refl w.heap.size w).alloc (Nat.le_refl _) (.cells #[.int .i64 52, .int .i64 11, .int .i64 (-1023)] 177))
  have HA0 := Lib.hid (HA.out.below B0.out)
  generalize w.alloc (.cells #[.int .i64 52, .int .i64 11, .int .i64 (-1023)] 177) = w0 at *
  refine (HNDh.out _).mono ?_
  rintro e w2 ⟨ph, L0, dp0, v0, rfl, hm⟩
  have HSH := Lib.hid (shift_any w2 ph L0 dp0 v0 (a1) 1 (k + 1) hm.2.2.1 hm.2.2.2.1 hm.2.2.2.2.1 hm.2.2.2.2.2.1 hm.2.2.2.2.2.2.1 (by omega) (by omega) (by omega))
  have HMM := Lib.hid hm
  obtain ⟨il, i0, i2⟩ := I0.out.below hm.1
  clear hm
  go_wp2_with fail
  rw [HXh.out]
  refine HSH.out.mono ?_
  rintro e wh ⟨rfl, hg, Lh, dph, vh, hd, hdm, hl, h2, h3, _⟩
  have hB := HMM.out.1.grown hg HMM.out.1.size (fun b hb => by injection hb; have := HMM.out.2.1; omega)
  have HH := Lib.hid (And.intro hd (And.intro (NH.out _ _ HK1.out hdm) (And.intro hdm.ten (And.intro hl (And.intro h2 h3)))))
  have Ih := Lib.hid (I0.out.below hB)
  have Bh := Lib.hid (B0.out.trans (hB.mono B0.out.size))
  have Ch := Lib.hid hB
  clear il i0 i2 hg hd hdm hl h2 h3 HMM HSH hB
  obtain ⟨il, i0, i2⟩ := Ih.out
  go_wp2_with fail
  clear il i0 i2
  refine (HNDl.out _).mono ?_
  rintro e w2 ⟨pl, L0, dp0, v0, rfl, hm⟩
  have HSH := Lib.hid (shift_any w2 pl L0 dp0 v0 (a2) 1 (k + 1) hm.2.2.1 hm.2.2.2.1 hm.2.2.2.2.1 hm.2.2.2.2.2.1 hm.2.2.2.2.2.2.1 (by omega) (by omega) (by omega))
  have HMM := Lib.hid hm
  obtain ⟨il, i0, i2⟩ := Ih.out.below hm.1
  clear hm
  go_wp2_with fail
  rw [HXl.out]
  refine HSH.out.mono ?_
  rintro e wl ⟨rfl, hg, Ll, dpl, vl, hd, hdm, hl, h2, h3, _⟩
  have hB := HMM.out.1.grown hg HMM.out.1.size (fun b hb => by injection hb; have := HMM.out.2.1; omega)
  have HL := Lib.hid (And.intro hd (And.intro (NL.out _ _ HK1.out hdm) (And.intro hdm.ten (And.intro hl (And.intro h2 h3)))))
  have Il := Lib.hid (Ih.out.below hB)
  have Bl := Lib.hid (Bh.out.trans (hB.mono Bh.out.size))
  have Cl := Lib.hid hB
  clear il i0 i2 hg hd hdm hl h2 h3 HMM HSH hB
  obtain ⟨il, i0, i2⟩ := Il.out
  have hAl := (HA0.out.below Ch.out).below Cl.out
  have hHl := And.intro (HH.out.1.below Cl.out) HH.out.2
  have HAl := Lib.hid hAl
  have HHl := Lib.hid hHl
  clear hAl hHl
  by_cases hq : mant = 4503599627370496
  · have hqq : ((mant : Int) == 4503599627370496) = true := by rw [beq_iff_eq]; omega
    have hev : ((mant : Int) % 2 == 0) = true := by rw [beq_iff_eq]; omega
    clear hq
    go_wp2_with fail
    clear il i0 i2
    refine (HNDq.out _).mono ?_
    rintro e w2 ⟨pq, L0, dp0, v0, rfl, hm⟩
    have HSH := Lib.hid (shift_any w2 pq L0 dp0 v0 (a3) 1 (k + 2) hm.2.2.1 hm.2.2.2.1 hm.2.2.2.2.1 hm.2.2.2.2.2.1 hm.2.2.2.2.2.2.1 (by omega) (by omega) (by omega))
    have HMM := Lib.hid hm
    obtain ⟨il, i0, i2⟩ := Il.out.below hm.1
    clear hm
    go_wp2_with fail
    rw [HXq.out]
    refine HSH.out.mono ?_
    rintro e wq ⟨rfl, hg, Lq, dpq, vq, hd, hdm, hl, h2, h3, _⟩
    have hB := HMM.out.1.grown hg HMM.out.1.size (fun b hb => by injection hb; have := HMM.out.2.1; omega)
    have HQ := Lib.hid (And.intro hd (And.intro (NQ.out _ _ HK1.out hdm) (And.intro hdm.ten (And.intro hl (And.intro h2 h3)))))
    have Iq := Lib.hid (Il.out.below hB)
    have Bq := Lib.hid (Bl.out.trans (hB.mono Bl.out.size))
    have Cq := Lib.hid hB
    clear il i0 i2 hg hd hdm hl h2 h3 HMM HSH hB
    obtain ⟨il, i0, i2⟩ := Iq.out
    have HA9 := Lib.hid (HAl.out.below Cq.out)
    have HH9 := Lib.hid (And.intro (HHl.out.1.below Cq.out) HHl.out.2)
    have HL9 := HQ
    have HB9 := Bq
    clear il i0 i2
    go_wp2_with fail
    go_loopw [12] (fun iv wr => ∃ i : Nat, i ≤ m ∧ iv = .int .i64 i ∧ Hid (Below wq.heap.size wq wr)) (fun iv _ => m - (intOf iv).toNat)
    case atStart => exact ⟨0, Nat.zero_le _, rfl, Lib.hid (Below.refl _ _)⟩
    case round =>
      obtain ⟨i, him, rfl, HB⟩ := hrel
      have ha := HA9.out.below HB.out
      obtain ⟨A0, cc, hv0⟩ := ha.dig.shape
      have c0 := ha.box.cell0
      rw [hv0, ← HM.out.1] at c0
      clear hv0
      by_cases him2 : i < m
      · have hiz : (i : Int) < (m : Int) := by omega
        have HDN := Lib.hid (down_any wr p _ _ _ ha i (by rw [← HM.out.1]; exact him2) (by rw [← HM.out.1]; omega))
        have HAR := Lib.hid ha
        clear ha
        go_wp2_with fail
        refine HDN.out.mono ?_
        rintro e wa ⟨pd, D, z, vd, rfl, hba, hz, hlast, hdd⟩
        have ha2 := HAR.out.below hba
        have HUP := Lib.hid (up_any wa p _ _ _ ha2 i (by rw [← HM.out.1]; exact him2) (by rw [← HM.out.1]; omega) (by have := HM.out.2; omega) (by omega) (ten_half N))
        have HDD := Lib.hid (And.intro hba (And.intro hz hdd))
        clear hba hz hlast hdd ha2
        go_wp2_with fail
        refine HUP.out.mono ?_
        rintro e wb ⟨pu, Lu, dpu, vu, rfl, hbb, hdu, hux⟩
        have hBb := HB.out.trans ((HDD.out.1.trans (hbb.mono HDD.out.1.size)).mono HB.out.size)
        have hlD := len_take HDD.out.2.1
        have hlU := len_up hux
        rw [← HM.out.1] at hlD hlU
        have HC1 := Lib.hid (cmp_any wb pq pd Lq D dpq _ vq vd (HL9.out.1.below hBb) (HDD.out.2.2.below hbb) (HL9.out.2.1.down (by have := HM.out.2; omega) HDD.out.2.1) HL9.out.2.2.1 (ten_take (ten_half N) HDD.out.2.1) (by have := HL9.out.2.2.2.1; omega) (by omega) HL9.out.2.2.2.2.1 HL9.out.2.2.2.2.2 (by split <;> (have := HM.out.2; omega)) (by split <;> omega))
        have HUU := Lib.hid (And.intro hbb (And.intro hdu hux))
        have HBB := Lib.hid hBb
        clear hbb hdu hux hBb
        go_wp2_with fail
        refine HC1.out.mono ?_
        rintro e wc ⟨x1, hx1, hx1b, rfl, hbc⟩
        have hBc := HBB.out.trans (hbc.mono HBB.out.size)
        have HC2 := Lib.hid (cmp_any wc pu ph Lu Lh dpu dph vu vh (HUU.out.2.1.below hbc) (HH9.out.1.below hBc) (HH9.out.2.1.up (by have := HM.out.2; omega) HUU.out.2.2) (ten_up (ten_half N) HUU.out.2.2) HH9.out.2.2.1 (by omega) (by have := HH9.out.2.2.2.1; omega) (by have := HM.out.2; omega) (by have := HM.out.2; omega) HH9.out.2.2.2.2.1 HH9.out.2.2.2.2.2)
        have HBC := Lib.hid hBc
        clear hbc hBc
        have hlt1 : ¬ (x1 < 1) := by omega
        go_wp2_with fail
        refine HC2.out.mono ?_
        rintro e wd ⟨x2, hx2, hx2b, rfl, hbd⟩
        have HBD := Lib.hid (HBC.out.trans (hbd.mono HBC.out.size))
        have hlt2 : ¬ (x2 < 1) := by omega
        clear hbd
        go_wp2_with fail
        go_roundw
        case rel => exact ⟨i + 1, by omega, by simp, HBD⟩
        case measure => simp [intOf]; omega
      · have hmi : (i : Int) = (m : Int) := by omega
        clear ha
        go_wp2_with fail
        go_ret
        exact ⟨rfl, HB9.out.trans (HB.out.mono HB9.out.size)⟩
  · have hqq : ((mant : Int) == 4503599627370496) = false := by rw [beq_eq_false_iff_ne]; omega
    clear hq
    have HA9 := HAl
    have HH9 := HHl
    have HL9 := HL
    have HB9 := Bl
    rcases HE.out with hev0 | hev0
    · have hev : ((mant : Int) % 2 == 0) = true := by rw [beq_iff_eq]; exact hev0
      clear hev0
      go_wp2_with fail
      go_loopw [12] (fun iv wr => ∃ i : Nat, i ≤ m ∧ iv = .int .i64 i ∧ Hid (Below wl.heap.size wl wr)) (fun iv _ => m - (intOf iv).toNat)
      case atStart => exact ⟨0, Nat.zero_le _, rfl, Lib.hid (Below.refl _ _)⟩
      case round =>
        obtain ⟨i, him, rfl, HB⟩ := hrel
        have ha := HA9.out.below HB.out
        obtain ⟨A0, cc, hv0⟩ := ha.dig.shape
        have c0 := ha.box.cell0
        rw [hv0, ← HM.out.1] at c0
        clear hv0
        by_cases him2 : i < m
        · have hiz : (i : Int) < (m : Int) := by omega
          have HDN := Lib.hid (down_any wr p _ _ _ ha i (by rw [← HM.out.1]; exact him2) (by rw [← HM.out.1]; omega))
          have HAR := Lib.hid ha
          clear ha
          go_wp2_with fail
          refine HDN.out.mono ?_
          rintro e wa ⟨pd, D, z, vd, rfl, hba, hz, hlast, hdd⟩
          have ha2 := HAR.out.below hba
          have HUP := Lib.hid (up_any wa p _ _ _ ha2 i (by rw [← HM.out.1]; exact him2) (by rw [← HM.out.1]; omega) (by have := HM.out.2; omega) (by omega) (ten_half N))
          have HDD := Lib.hid (And.intro hba (And.intro hz hdd))
          clear hba hz hlast hdd ha2
          go_wp2_with fail
          refine HUP.out.mono ?_
          rintro e wb ⟨pu, Lu, dpu, vu, rfl, hbb, hdu, hux⟩
          have hBb := HB.out.trans ((HDD.out.1.trans (hbb.mono HDD.out.1.size)).mono HB.out.size)
          have hlD := len_take HDD.out.2.1
          have hlU := len_up hux
          rw [← HM.out.1] at hlD hlU
          have HC1 := Lib.hid (cmp_any wb pl pd Ll D dpl _ vl vd (HL9.out.1.below hBb) (HDD.out.2.2.below hbb) (HL9.out.2.1.down (by have := HM.out.2; omega) HDD.out.2.1) HL9.out.2.2.1 (ten_take (ten_half N) HDD.out.2.1) (by have := HL9.out.2.2.2.1; omega) (by omega) HL9.out.2.2.2.2.1 HL9.out.2.2.2.2.2 (by split <;> (have := HM.out.2; omega)) (by split <;> omega))
          have HUU := Lib.hid (And.intro hbb (And.intro hdu hux))
          have HBB := Lib.hid hBb
          clear hbb hdu hux hBb
          go_wp2_with fail
          refine HC1.out.mono ?_
          rintro e wc ⟨x1, hx1, hx1b, rfl, hbc⟩
          have hBc := HBB.out.trans (hbc.mono HBB.out.size)
          have HC2 := Lib.hid (cmp_any wc pu ph Lu Lh dpu dph vu vh (HUU.out.2.1.below hbc) (HH9.out.1.below hBc) (HH9.out.2.1.up (by have := HM.out.2; omega) HUU.out.2.2) (ten_up (ten_half N) HUU.out.2.2) HH9.out.2.2.1 (by omega) (by have := HH9.out.2.2.2.1; omega) (by have := HM.out.2; omega) (by have := HM.out.2; omega) HH9.out.2.2.2.2.1 HH9.out.2.2.2.2.2)
          have HBC := Lib.hid hBc
          clear hbc hBc
          have hlt1 : ¬ (x1 < 1) := by omega
          go_wp2_with fail
          refine HC2.out.mono ?_
          rintro e wd ⟨x2, hx2, hx2b, rfl, hbd⟩
          have HBD := Lib.hid (HBC.out.trans (hbd.mono HBC.out.size))
          have hlt2 : ¬ (x2 < 1) := by omega
          clear hbd
          go_wp2_with fail
          go_roundw
          case rel => exact ⟨i + 1, by omega, by simp, HBD⟩
          case measure => simp [intOf]; omega
        · have hmi : (i : Int) = (m : Int) := by omega
          clear ha
          go_wp2_with fail
          go_ret
          exact ⟨rfl, HB9.out.trans (HB.out.mono HB9.out.size)⟩
    · have hev : ((mant : Int) % 2 == 0) = false := by rw [beq_eq_false_iff_ne]; omega
      clear hev0
      go_wp2_with fail
      go_loopw [12] (fun iv wr => ∃ i : Nat, i ≤ m ∧ iv = .int .i64 i ∧ Hid (Below wl.heap.size wl wr)) (fun iv _ => m - (intOf iv).toNat)
      case atStart => exact ⟨0, Nat.zero_le _, rfl, Lib.hid (Below.refl _ _)⟩
      case round =>
        obtain ⟨i, him, rfl, HB⟩ := hrel
        have ha := HA9.out.below HB.out
        obtain ⟨A0, cc, hv0⟩ := ha.dig.shape
        have c0 := ha.box.cell0
        rw [hv0, ← HM.out.1] at c0
        clear hv0
        by_cases him2 : i < m
        · have hiz : (i : Int) < (m : Int) := by omega
          have HDN := Lib.hid (down_any wr p _ _ _ ha i (by rw [← HM.out.1]; exact him2) (by rw [← HM.out.1]; omega))
          have HAR := Lib.hid ha
          clear ha
          go_wp2_with fail
          refine HDN.out.mono ?_
          rintro e wa ⟨pd, D, z, vd, rfl, hba, hz, hlast, hdd⟩
          have ha2 := HAR.out.below hba
          have HUP := Lib.hid (up_any wa p _ _ _ ha2 i (by rw [← HM.out.1]; exact him2) (by rw [← HM.out.1]; omega) (by have := HM.out.2; omega) (by omega) (ten_half N))
          have HDD := Lib.hid (And.intro hba (And.intro hz hdd))
          clear hba hz hlast hdd ha2
          go_wp2_with fail
          refine HUP.out.mono ?_
          rintro e wb ⟨pu, Lu, dpu, vu, rfl, hbb, hdu, hux⟩
          have hBb := HB.out.trans ((HDD.out.1.trans (hbb.mono HDD.out.1.size)).mono HB.out.size)
          have hlD := len_take HDD.out.2.1
          have hlU := len_up hux
          rw [← HM.out.1] at hlD hlU
          have HC1 := Lib.hid (cmp_any wb pl pd Ll D dpl _ vl vd (HL9.out.1.below hBb) (HDD.out.2.2.below hbb) (HL9.out.2.1.down (by have := HM.out.2; omega) HDD.out.2.1) HL9.out.2.2.1 (ten_take (ten_half N) HDD.out.2.1) (by have := HL9.out.2.2.2.1; omega) (by omega) HL9.out.2.2.2.2.1 HL9.out.2.2.2.2.2 (by split <;> (have := HM.out.2; omega)) (by split <;> omega))
          have HUU := Lib.hid (And.intro hbb (And.intro hdu hux))
          have HBB := Lib.hid hBb
          clear hbb hdu hux hBb
          go_wp2_with fail
          refine HC1.out.mono ?_
          rintro e wc ⟨x1, hx1, hx1b, rfl, hbc⟩
          have hBc := HBB.out.trans (hbc.mono HBB.out.size)
          have HC2 := Lib.hid (cmp_any wc pu ph Lu Lh dpu dph vu vh (HUU.out.2.1.below hbc) (HH9.out.1.below hBc) (HH9.out.2.1.up (by have := HM.out.2; omega) HUU.out.2.2) (ten_up (ten_half N) HUU.out.2.2) HH9.out.2.2.1 (by omega) (by have := HH9.out.2.2.2.1; omega) (by have := HM.out.2; omega) (by have := HM.out.2; omega) HH9.out.2.2.2.2.1 HH9.out.2.2.2.2.2)
          have HBC := Lib.hid hBc
          clear hbc hBc
          have hlt1 : ¬ (x1 < 0) := by omega
          go_wp2_with fail
          refine HC2.out.mono ?_
          rintro e wd ⟨x2, hx2, hx2b, rfl, hbd⟩
          have HBD := Lib.hid (HBC.out.trans (hbd.mono HBC.out.size))
          have hlt2 : ¬ (x2 < 0) := by omega
          clear hbd
          go_wp2_with fail
          go_roundw
          case rel => exact ⟨i + 1, by omega, by simp, HBD⟩
          case measure => simp [intOf]; omega
        · have hmi : (i : Int) = (m : Int) := by omega
          clear ha
          go_wp2_with fail
          go_ret
          exact ⟨rfl, HB9.out.trans (HB.out.mono HB9.out.size)⟩
end Go.Proofs.YtpigccnlembfdaaGreatDoor
