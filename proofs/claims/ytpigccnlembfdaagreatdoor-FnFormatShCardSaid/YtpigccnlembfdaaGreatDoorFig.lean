/- The walks of spec.digits and spec.figures. Conditions: as each theorem states. -/
import Derived.Test.YtpigccnlembfdaaGreatDoorSay
import Derived.Test.YtpigccnlembfdaaGreatDoorFmt
namespace Go.Proofs.YtpigccnlembfdaaGreatDoor
open Go.RowKit

theorem enc_digit (d : Nat) (hd : d < 10) : Utf8.encode (48 + (d : Int)) = strL [dByte d] := by
  have hds : d = 0 ∨ d = 1 ∨ d = 2 ∨ d = 3 ∨ d = 4 ∨ d = 5 ∨ d = 6 ∨ d = 7 ∨ d = 8 ∨ d = 9 := by omega
  rcases hds with rfl | rfl | rfl | rfl | rfl | rfl | rfl | rfl | rfl | rfl <;> rfl
theorem strL_app (a b : List UInt8) : strL a ++ strL b = strL (a ++ b) := by
  apply ByteArray.ext
  simp [strL, ByteArray.data_append]
set_option maxRecDepth 100000 in
set_option maxHeartbeats 1000000 in
theorem digits_any (w : World) (n : Nat) (hn : n ≤ 1000000000000000) :
    Calls Tryz.prog 32 #[.int .i64 n] w (Same0 w (.string (strL (Lib.decDigits n)))) := by
  have hl16 : (Lib.decDigits n).length ≤ 16 := dec_length 15 n (by omega)
  go_enter Tryz.func32, Tryz.ntmps32
  go_wp2_with fail
  go_loopw [0, 3] (fun nv tv wr => ∃ (m : Nat) (sfx : List UInt8), nv = .int .i64 m ∧ tv = .string (strL sfx) ∧ m ≤ n ∧ Hid (Lib.decDigits m ++ sfx = Lib.decDigits n ∧ Below w.heap.size w wr)) (fun nv _ _ => (intOf nv).toNat)
  case atStart => exact ⟨n, [], rfl, rfl, Nat.le_refl _, Lib.hid ⟨by simp, Below.refl _ _⟩⟩
  case round =>
    obtain ⟨m, sfx, rfl, rfl, hm, HF⟩ := hrel
    have hsl : sfx.length ≤ 16 := by have := congrArg List.length HF.out.1; rw [List.length_append] at this; omega
    have hsz : (strL sfx).size ≤ 16 := by rw [strL_size]; exact hsl
    by_cases h10 : m < 10
    · have hlt : ¬ (10 : Int) ≤ (m : Int) := by omega
      obtain ⟨T, hT⟩ : ∃ T, T = strL sfx := ⟨_, rfl⟩
      rw [← hT] at hsz ⊢
      obtain ⟨E, hE⟩ : ∃ E, E = strL [dByte m] := ⟨_, rfl⟩
      have henc := enc_digit m h10
      rw [← hE] at henc
      have hEs : E.size = 1 := by rw [hE]; rfl
      have HX := Lib.hid (And.intro hT hE)
      clear hT hE
      go_wp2_with fail
      go_ret
      obtain ⟨h1, h2⟩ := HF.out
      refine ⟨?_, h2⟩
      rw [HX.out.1, HX.out.2, ← h1, dec_small h10, ← strL_app]
      rfl
    · obtain ⟨d, hd⟩ : ∃ d, d = m % 10 := ⟨_, rfl⟩
      have hdz : (m : Int) % 10 = (d : Int) := by omega
      have hd10 : d < 10 := by omega
      obtain ⟨q, hq⟩ : ∃ q, q = m / 10 := ⟨_, rfl⟩
      have hqz : (m : Int) / 10 = (q : Int) := by omega
      have hge : (10 : Int) ≤ (m : Int) := by omega
      have hqm : q < m := by omega
      obtain ⟨T, hT⟩ : ∃ T, T = strL sfx := ⟨_, rfl⟩
      rw [← hT] at hsz ⊢
      obtain ⟨E, hE⟩ : ∃ E, E = strL [dByte d] := ⟨_, rfl⟩
      have henc := enc_digit d hd10
      rw [← hE] at henc
      have hEs : E.size = 1 := by rw [hE]; rfl
      have HX := Lib.hid (And.intro hT hE)
      have HDQ := Lib.hid (And.intro hd (And.intro hq h10))
      clear hd hq hT hE h10
      go_wp2_with fail
      refine ⟨⟨q, dByte d :: sfx, rfl, ?_, by omega, Lib.hid ⟨?_, HF.out.2⟩⟩, by simp [intOf]; omega⟩
      · rw [HX.out.1, HX.out.2, strL_app]; rfl
      · rw [← HF.out.1, dec_big HDQ.out.2.2, HDQ.out.2.1, HDQ.out.1]; simp [dByte]
/-- The text of a half or a whole number, and whether there is one. -/
def figs (h : Int) : List UInt8 := if h.tmod 2 = 0 then Lib.itoa (h.tdiv 2) else halfText h
theorem wholeD_eq (N : Nat) : wholeD N = Lib.decDigits N := by
  unfold wholeD
  by_cases h : N = 0
  · subst h; rw [if_pos digN_zero, dec_small (by decide)]; rfl
  · rw [if_neg (digN_ne h), digN_map h]
theorem figs_even (n : Nat) (h : n % 2 = 0) : figs n = Lib.decDigits (n / 2) := by
  have e : (n : Int).tdiv 2 = ((n / 2 : Nat) : Int) := by rw [Int.tdiv_eq_ediv_of_nonneg (by omega)]; omega
  have e2 : (n : Int).tmod 2 = 0 := by rw [Int.tmod_eq_emod_of_nonneg (by omega)]; omega
  unfold figs
  rw [if_pos e2, e]
  unfold Lib.itoa
  rw [if_neg (by omega), Int.toNat_natCast]
theorem figs_odd (n : Nat) (h : ¬ n % 2 = 0) : figs n = Lib.decDigits (n / 2) ++ [46, 53] := by
  have e2 : ¬ (n : Int).tmod 2 = 0 := by rw [Int.tmod_eq_emod_of_nonneg (by omega)]; omega
  unfold figs
  rw [if_neg e2]
  unfold halfText
  rw [if_neg (by omega), wholeD_eq, Int.natAbs_natCast, List.nil_append]
theorem figs_neg (n : Nat) (hn : n ≠ 0) : figs (-(n : Int)) = 45 :: figs n := by
  unfold figs
  rw [Int.neg_tmod, Int.neg_tdiv]
  have e : (n : Int).tdiv 2 = ((n / 2 : Nat) : Int) := by rw [Int.tdiv_eq_ediv_of_nonneg (by omega)]; omega
  have e1 : (n : Int).tmod 2 = ((n % 2 : Nat) : Int) := by rw [Int.tmod_eq_emod_of_nonneg (by omega)]; omega
  rw [e, e1]
  by_cases h : n % 2 = 0
  · rw [if_pos (by omega), if_pos (by omega)]
    unfold Lib.itoa
    rw [if_pos (by omega), if_neg (by omega)]
    congr 2
    omega
  · rw [if_neg (by omega), if_neg (by omega)]
    unfold halfText
    rw [if_pos (by omega), if_neg (by omega)]
    simp
/-- What figures leaves: the text, or that it says nothing of this number. -/
def FigPost (m : Nat) (h : Int) (w : World) (e : Ending) (w' : World) : Prop := Below w.heap.size w w' ∧ (e = .returned (.tuple #[.string (strL (figs h)), .int .i64 0]) ∨ ∃ s : ByteArray, s.size ≤ m ∧ e = .returned (.tuple #[.string s, .int .i64 2]))
set_option maxRecDepth 100000 in
set_option maxHeartbeats 2000000 in
theorem figures_pos (w : World) (n : Nat) (hn : n ≤ 18014398509481984) : Calls Tryz.prog 19 #[.int .i64 n] w (FigPost 10 n w) := by
  by_cases hb : n / 2 ≤ 1000000000000000
  · have HD := Lib.hid (fun w' => digits_any w' (n / 2) hb)
    obtain ⟨q, hq⟩ : ∃ q, q = n / 2 := ⟨_, rfl⟩
    rw [← hq] at HD hb
    have hqz : (n : Int) / 2 = (q : Int) := by omega
    have hl16 : (strL (Lib.decDigits q)).size ≤ 16 := by rw [strL_size]; exact dec_length 15 q (by omega)
    obtain ⟨T, hT⟩ : ∃ T, T = strL (Lib.decDigits q) := ⟨_, rfl⟩
    rw [← hT] at HD hl16
    have HX := Lib.hid (And.intro hT hq)
    clear hT hq
    by_cases ho : n % 2 = 0
    · have hr : ((n : Int) % 2 != 0) = false := by rw [bne_eq_false_iff_eq]; omega
      have HO := Lib.hid ho
      clear ho
      go_enter Tryz.func19, Tryz.ntmps19
      go_wp2_with fail
      refine (HD.out _).mono ?_
      rintro e w2 ⟨rfl, hb2⟩
      go_wp2_with fail
      go_ret2
      refine ⟨hb2, Or.inl ?_⟩
      rw [figs_even n HO.out, ← HX.out.2, ← HX.out.1]; rfl
    · have hr : ((n : Int) % 2 != 0) = true := by rw [bne_iff_ne]; omega
      have HO := Lib.hid ho
      clear ho
      go_enter Tryz.func19, Tryz.ntmps19
      go_wp2_with fail
      refine (HD.out _).mono ?_
      rintro e w2 ⟨rfl, hb2⟩
      go_wp2_with fail
      go_ret2
      refine ⟨hb2, Or.inl ?_⟩
      rw [figs_odd n HO.out, ← HX.out.2, ← strL_app, ← HX.out.1]; rfl
  · have hgt : (1000000000000000 : Int) < (n : Int) / 2 := by omega
    go_enter Tryz.func19, Tryz.ntmps19
    go_wp2_with fail
    go_ret2
    exact ⟨Below.refl _ _, Or.inr ⟨_, by decide, rfl⟩⟩
set_option maxRecDepth 100000 in
set_option maxHeartbeats 2000000 in
theorem figures_any (w : World) (h : Int) (h0 : -18014398509481984 ≤ h) (h1 : h ≤ 18014398509481984) : Calls Tryz.prog 19 #[.int .i64 h] w (FigPost 100 h w) := by
  by_cases hn : h < 0
  · obtain ⟨n, rfl⟩ : ∃ n : Nat, h = -(n : Int) := ⟨h.natAbs, by omega⟩
    have HP := Lib.hid (fun w' => figures_pos w' n (by omega))
    have hneg : IntKind.i64.wrap (- -(n : Int)) = (n : Int) := by rw [IntWalk.i64_in _ (by omega)]; omega
    have hl : (figs n).length ≤ 64 := by
      unfold figs
      split
      · have hh := half_of (h := (n : Int)) (by omega) (by omega)
        exact itoa_len _ hh.1 hh.2
      · rename_i ho
        have hw : n % 2 ≠ 0 := fun he => ho (by rw [Int.tmod_eq_emod_of_nonneg (by omega)]; omega)
        unfold halfText
        rw [if_neg (by omega), wholeD_eq, Int.natAbs_natCast]
        have := dec_length 19 (n / 2) (by omega)
        simp; omega
    obtain ⟨T, hT⟩ : ∃ T, T = strL (figs n) := ⟨_, rfl⟩
    have hTs : T.size ≤ 64 := by rw [hT, strL_size]; exact hl
    have hn0 : n ≠ 0 := by omega
    have HT := Lib.hid (And.intro hT hn0)
    have HNEG := Lib.hid hneg
    clear hneg hl hT
    go_enter Tryz.func19, Tryz.ntmps19
    go_wp2_with fail
    try rw [HNEG.out]
    first | refine (HP.out _).mono ?_ | (rw [show (- -(n : Int)) = (n : Int) by omega]; refine (HP.out _).mono ?_)
    rintro e w2 ⟨hb2, rfl | ⟨s, hs, rfl⟩⟩
    · rw [← HT.out.1]
      go_wp2_with fail
      go_ret2
      refine ⟨hb2, Or.inl ?_⟩
      rw [figs_neg n HT.out.2, show (45 :: figs n) = [45] ++ figs n by rfl, ← strL_app, ← HT.out.1]; rfl
    · go_wp2_with fail
      go_ret2
      refine ⟨hb2, Or.inr ⟨⟨#[45]⟩ ++ s, ?_, rfl⟩⟩
      rw [ByteArray.size_append]; exact Nat.le_trans (Nat.add_le_add_left hs 1) (by decide)
  · obtain ⟨n, rfl⟩ : ∃ n : Nat, h = (n : Int) := ⟨h.toNat, by omega⟩
    exact (figures_pos w n (by omega)).mono fun e w' hp => ⟨hp.1, hp.2.imp_right fun ⟨s, hs, he⟩ => ⟨s, by omega, he⟩⟩
end Go.Proofs.YtpigccnlembfdaaGreatDoor
