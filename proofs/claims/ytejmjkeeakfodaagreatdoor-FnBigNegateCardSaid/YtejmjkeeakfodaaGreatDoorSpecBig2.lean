/- The walks of the reference's more, WholeCmp against 0, signed and WholeNeg at numerals; of laws.wide and laws.exact. Conditions: as each theorem states. -/
import Derived.Test.YtejmjkeeakfodaaGreatDoorSpecBig
namespace Go.Proofs.YtejmjkeeakfodaaGreatDoor
open Go.RowKit

def IntFrom (w : World) (e : Ending) (w' : World) : Prop := ∃ m : Int, 0 ≤ m ∧ e = .returned (.int .i64 m) ∧ w = w'
theorem dec_one {n : Nat} (h : (Lib.decDigits n).length = 1) : n < 10 := by
  refine Nat.lt_of_not_le fun hn => ?_
  rw [dec_big (by omega), List.length_append, List.length_singleton] at h
  have h1 : Lib.decDigits (n / 10) ≠ [] := dec_none
  have h2 := List.length_pos_iff.2 h1
  omega
theorem sign_pos (w : World) (x : Int) (h : 0 < x) : Calls Tryz.prog 19 #[.int .i64 x] w (Plain w (.int .i64 1)) := by
  go_enter Tryz.func19, Tryz.ntmps19
  have h2 : ¬ x < 0 := by omega
  go_wp2_with fail
  go_ret
  exact ⟨rfl, rfl⟩
set_option maxRecDepth 100000 in
set_option maxHeartbeats 1000000 in
theorem more_dec (w : World) (n : Nat) (hlen : (Lib.decDigits n).length ≤ 1000000) : Calls Tryz.prog 12 #[.string (str (Lib.decDigits n)), .string ⟨#[48]⟩] w (IntFrom w) := by
  obtain ⟨s, hs⟩ : ∃ s, s = str (Lib.decDigits n) := ⟨_, rfl⟩
  have hl : s.size = (Lib.decDigits n).length := by rw [hs, str_size]
  rw [← hs]
  by_cases h1 : (Lib.decDigits n).length = 1
  · have hn := dec_one h1
    rw [dec_small hn] at hs
    have e0 : ((s.size : Int) != 1) = false := by rw [bne_eq_false_iff_eq]; omega
    have hL : s.toList = [UInt8.ofNat (48 + n)] := by rw [ByteArray.toList_eq, hs, str_list]
    have e1 : Op.bytesLess s.toList [48] = false := by
      rw [hL]
      have hc : n = 0 ∨ n = 1 ∨ n = 2 ∨ n = 3 ∨ n = 4 ∨ n = 5 ∨ n = 6 ∨ n = 7 ∨ n = 8 ∨ n = 9 := by omega
      rcases hc with rfl | rfl | rfl | rfl | rfl | rfl | rfl | rfl | rfl | rfl <;> decide
    obtain ⟨b, e2⟩ : ∃ b, (s.toList == [48]) = b := ⟨_, rfl⟩
    have hle : s.size ≤ 1000000 := by omega
    clear h1 hn hlen hs hl hL
    cases b
    all_goals
      go_enter Tryz.func12, Tryz.ntmps12
      go_wp2_with fail
      go_ret
      exact ⟨_, by decide, rfl, rfl⟩
  · have h0 : 0 < (Lib.decDigits n).length := List.length_pos_iff.2 dec_none
    have hl1 : 1 < (s.size : Int) := by omega
    have hne : ((s.size : Int) != 1) = true := by rw [bne_iff_ne]; omega
    have hle : s.size ≤ 1000000 := by omega
    clear hs hl h0 h1 hlen
    go_enter Tryz.func12, Tryz.ntmps12
    go_wp2_with (go_at_call 19; refine (sign_pos _ _ (by omega)).mono ?_; rintro e w2 ⟨rfl, rfl⟩)
    go_ret
    exact ⟨_, by decide, rfl, rfl⟩

theorem wholeCmp_neg (w : World) (s : ByteArray) (h : neg45 s.data.toList = true) : Calls Tryz.prog 5 #[.string s, .string ⟨#[48]⟩] w (Plain w (.int .i64 (-1))) := by
  have hB := below_any w s
  rw [h] at hB
  have hB0 := below_any w ⟨#[48]⟩
  have HB := Lib.hid hB
  have HB0 := Lib.hid (show Calls _ _ _ w (Plain w (.bool false)) from hB0)
  clear hB hB0 h
  go_enter Tryz.func5, Tryz.ntmps5
  go_wp2_with (first | (go_at_call 11; ((with_reducible refine HB.out.mono ?_); rintro e w2 ⟨rfl, rfl⟩)) | (go_at_call 11; ((with_reducible refine HB0.out.mono ?_); rintro e w2 ⟨rfl, rfl⟩)))
  go_ret
  exact ⟨rfl, rfl⟩
theorem wholeCmp_pos (w : World) (n : Nat) (hlen : (Lib.decDigits n).length ≤ 1000000) : Calls Tryz.prog 5 #[.string (str (Lib.decDigits n)), .string ⟨#[48]⟩] w (IntFrom w) := by
  have hB := below_any w (str (Lib.decDigits n))
  have e : neg45 (str (Lib.decDigits n)).data.toList = false := by
    rw [str_list]
    obtain ⟨c, r, h, h1, h2⟩ := dec_head n
    rw [h]
    show (c.toNat == 45) = false
    simp; omega
  rw [e] at hB
  have hB0 := below_any w ⟨#[48]⟩
  have HM := Lib.hid (more_dec w n hlen)
  have HB := Lib.hid hB
  have HB0 := Lib.hid (show Calls _ _ _ w (Plain w (.bool false)) from hB0)
  clear hB hB0 e hlen
  generalize str (Lib.decDigits n) = s at *
  go_enter Tryz.func5, Tryz.ntmps5
  go_wp2_with (first | (go_at_call 11; ((with_reducible refine HB.out.mono ?_); rintro e w2 ⟨rfl, rfl⟩)) | (go_at_call 11; ((with_reducible refine HB0.out.mono ?_); rintro e w2 ⟨rfl, rfl⟩)) | (go_at_call 12; ((with_reducible refine HM.out.mono ?_); rintro e w2 ⟨m, hm, rfl, rfl⟩)))
  go_ret
  exact ⟨m, hm, rfl, rfl⟩

theorem add_minus (l : List UInt8) : (⟨#[45]⟩ : ByteArray) ++ str l = str (45 :: l) := by
  apply bytes_eq
  rw [str_list]
  simp [str]
set_option maxRecDepth 100000 in
set_option maxHeartbeats 1000000 in
theorem signed_any (w : World) (b : Bool) (n : Nat) (hlen : (Lib.decDigits n).length ≤ 1000000) : Calls Tryz.prog 14 #[.bool b, .string (str (Lib.decDigits n))] w (Plain w (.string (str (if b = true ∧ n ≠ 0 then 45 :: Lib.decDigits n else Lib.decDigits n)))) := by
  obtain ⟨s, hs⟩ : ∃ s, s = str (Lib.decDigits n) := ⟨_, rfl⟩
  have hl : s.size = (Lib.decDigits n).length := by rw [hs, str_size]
  have hpos : 0 < s.size := by rw [hl]; exact List.length_pos_iff.2 dec_none
  have hle : s.size ≤ 1000000 := by omega
  have hadd : (⟨#[45]⟩ : ByteArray) ++ s = str (45 :: Lib.decDigits n) := by rw [hs, add_minus]
  have HADD := Lib.hid hadd
  have HS := Lib.hid hs
  have harm : (¬ ((1 : Int) < (s.size : Int))) ∨ ((1 : Int) < (s.size : Int) ∧ (((s[0]'hpos).toNat : Int) == 48) = false) := by
    by_cases h1 : s.size = 1
    · left; omega
    · right
      refine ⟨by omega, ?_⟩
      have hn : n ≠ 0 := by
        rintro rfl
        rw [dec_small (by decide)] at hl
        exact h1 hl
      have := get_list s 0 hpos
      rw [show s.data.toList = Lib.decDigits n by rw [hs, str_list]] at this
      have := (dec_facts n).2.2.2 hn _ this
      simp; omega
  have hzn : (s.toList == [48]) = decide (n = 0) := by
    rw [ByteArray.toList_eq, hs, str_list]
    by_cases h0 : n = 0
    · subst h0
      rw [dec_small (by decide)]; rfl
    · have : Lib.decDigits n ≠ [48] := fun h => h0 (dec_zero h)
      rw [decide_eq_false h0]
      simpa using this
  obtain ⟨z, hz⟩ : ∃ z, z = decide (n = 0) := ⟨_, rfl⟩
  rw [← hz] at hzn
  have HZ := Lib.hid hz
  obtain ⟨T, hT⟩ : ∃ T, T = (if b = true ∧ n ≠ 0 then 45 :: Lib.decDigits n else Lib.decDigits n) := ⟨_, rfl⟩
  have HT := Lib.hid hT
  rw [← hs, ← hT]
  clear hs hl hadd hz hlen hT
  rcases harm with harm | ⟨harm, harm2⟩
  all_goals
    cases b
    · go_enter Tryz.func14, Tryz.ntmps14
      go_wp2_with fail
      refine wp_loop_rounds 1 ?_
      rw [rounds_succ]
      go_wp2_with fail
      go_ret
      exact ⟨by rw [HT.out, if_neg (by simp), ← HS.out]; rfl, rfl⟩
    · cases z
      · go_enter Tryz.func14, Tryz.ntmps14
        go_wp2_with fail
        refine wp_loop_rounds 1 ?_
        rw [rounds_succ]
        go_wp2_with fail
        go_ret
        exact ⟨by rw [HT.out, if_pos (by have := of_decide_eq_false HZ.out.symm; simp [this]), ← HADD.out]; rfl, rfl⟩
      · go_enter Tryz.func14, Tryz.ntmps14
        go_wp2_with fail
        refine wp_loop_rounds 1 ?_
        rw [rounds_succ]
        go_wp2_with fail
        go_ret
        exact ⟨by rw [HT.out, if_neg (by have := of_decide_eq_true HZ.out.symm; simp [this]), ← HS.out]; rfl, rfl⟩

theorem wholeNeg_any (w : World) (z : Int) (hlen : (Lib.itoa z).length ≤ 1000000) : Calls Tryz.prog 6 #[.string (str (Lib.itoa z))] w (Plain w (.string (str (Lib.itoa (-z))))) := by
  have hB := below_any w (str (Lib.itoa z))
  have hD := digitsOf_any w (str (Lib.itoa z))
  rw [str_list] at hB hD
  rw [unsg_itoa] at hD
  have hl2 : (Lib.decDigits z.natAbs).length ≤ 1000000 := by
    by_cases h : z < 0
    · rw [itoa_lt h, List.length_cons] at hlen; omega
    · rw [itoa_ge h] at hlen
      rwa [show z.natAbs = z.toNat by omega]
  obtain ⟨b, hb⟩ : ∃ b, b = neg45 (Lib.itoa z) := ⟨_, rfl⟩
  have hbz : b = decide (z < 0) := by
    rw [hb]
    by_cases h : z < 0
    · rw [itoa_lt h, decide_eq_true h]; rfl
    · rw [itoa_ge h, decide_eq_false h]
      obtain ⟨c, r, h0, h1, h2⟩ := dec_head z.toNat
      rw [h0]
      show (c.toNat == 45) = false
      simp; omega
  rw [← hb] at hB
  have hS := signed_any w (!b) z.natAbs hl2
  have hT : (if (!b) = true ∧ z.natAbs ≠ 0 then 45 :: Lib.decDigits z.natAbs else Lib.decDigits z.natAbs) = Lib.itoa (-z) := by
    rw [itoa_opp, hbz]
    by_cases h : z < 0
    · rw [if_neg (by simp [h]), if_pos h]
    · rw [if_neg h]
      by_cases h0 : z = 0
      · rw [if_pos h0, if_neg (by simp [h0])]
      · rw [if_neg h0, if_pos (by simp [h]; omega)]
  rw [hT] at hS
  have HB := Lib.hid hB
  have HD := Lib.hid hD
  have HS := Lib.hid hS
  clear hB hD hS hT hb hbz hl2 hlen
  generalize str (Lib.itoa z) = s at *
  generalize str (Lib.decDigits z.natAbs) = d at *
  generalize str (Lib.itoa (-z)) = t at *
  cases b
  all_goals
    go_enter Tryz.func6, Tryz.ntmps6
    go_wp2_with (first | (go_at_call 11; refine HB.out.mono ?_; rintro e w2 ⟨rfl, rfl⟩) | (go_at_call 13; refine HD.out.mono ?_; rintro e w2 ⟨rfl, rfl⟩) | (go_at_call 14; refine HS.out.mono ?_; rintro e w2 ⟨rfl, rfl⟩))
    go_ret
    exact ⟨rfl, rfl⟩

/-- What a door of whole numbers gives: an integer's text. -/
def bigOf (z : Int) : Value := .agg #[.string (str (Lib.itoa z)), .int .i64 0]
def SaysB (w : World) (v : Value) (e : Ending) (w' : World) : Prop := e = .returned v ∧ Below w.heap.size w w'
set_option maxRecDepth 100000 in
theorem exact_any (w : World) (z : Int) : Calls Tryz.prog 7 #[bigOf z, .string (str (Lib.itoa z))] w (SaysB w (.bool true)) := by
  unfold bigOf
  generalize str (Lib.itoa z) = s
  go_enter Tryz.func7, Tryz.ntmps7
  go_wp2_with fail
  go_ret
  exact ⟨rfl, (Below.refl _ _).alloc (Nat.le_refl _) _⟩

/-- What wide says of one text. -/
def WideSaid (s : ByteArray) (w : World) (e : Ending) (w' : World) : Prop := ∃ b, e = .returned (.bool b) ∧ Below w.heap.size w w' ∧ (b = true → s.size ≤ 400 ∧ ∃ z : Int, s.data.toList = Lib.itoa z)
set_option maxRecDepth 100000 in
set_option maxHeartbeats 1000000 in
theorem wide_any (w : World) (s : ByteArray) (g c : Nat) (hc : w.cell? ⟨g, 0, none⟩ = some (.string s)) : Calls Tryz.prog 4 #[.slice (some ⟨g, 0, none⟩) 1 c] w (WideSaid s w) := by
  have hI := fun h => isWhole_any w s h
  have HI := Lib.hid hI
  clear hI
  go_enter Tryz.func4, Tryz.ntmps4
  go_wp2_with fail
  refine wp_loop_rounds 2 ?_
  rw [rounds_succ]
  by_cases h4 : (400 : Int) < (s.size : Int)
  · go_wp2_with fail
    go_ret
    exact ⟨false, rfl, Below.refl _ _, fun h => by cases h⟩
  · go_wp2_with fail
    refine (HI.out (by omega)).mono ?_
    rintro e w2 ⟨b, rfl, rfl, hb⟩
    have HB := Lib.hid hb
    clear hb
    cases b
    · go_wp2_with fail
      go_ret
      exact ⟨false, rfl, Below.refl _ _, fun h => by cases h⟩
    · go_wp2_with fail
      rw [rounds_succ]
      go_wp2_with fail
      go_ret
      exact ⟨true, rfl, Below.refl _ _, fun _ => ⟨by omega, HB.out (by first | rfl | trivial)⟩⟩
end Go.Proofs.YtejmjkeeakfodaaGreatDoor
