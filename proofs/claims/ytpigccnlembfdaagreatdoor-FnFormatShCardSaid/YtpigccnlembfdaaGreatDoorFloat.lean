/- Floats of whole numbers and halves below 2^53: what their bits are, and that halving one is exact. Conditions: as each theorem states. -/
import Derived.Test.YtpigccnlembfdaaGreatDoorRows
import Derived.Laws.FloatArith
import Derived.Laws.Cover2
namespace Go.Proofs.YtpigccnlembfdaaGreatDoor
open Ieee

theorem log2_shift (m k : Nat) (hm : m ≠ 0) : (m <<< k).log2 = m.log2 + k := by
  rw [Nat.shiftLeft_eq]
  have h1 : m * 2 ^ k ≠ 0 := Nat.mul_ne_zero hm (by have := Nat.two_pow_pos k; omega)
  have hlo := Nat.log2_self_le hm
  have hhi := Nat.lt_log2_self (n := m)
  apply Nat.le_antisymm
  · rw [← Nat.lt_succ_iff, Nat.log2_lt h1, Nat.succ_eq_add_one, show m.log2 + k + 1 = (m.log2 + 1) + k by omega, Nat.pow_add]
    exact Nat.mul_lt_mul_of_pos_right hhi (Nat.two_pow_pos k)
  · rw [Nat.le_log2 h1, Nat.pow_add]
    exact Nat.mul_le_mul_right _ hlo

/-- The significand of m, with 53 binary digits. -/
def sig (m : Nat) : Nat := m <<< (52 - m.log2)
theorem sig_bounds (m : Nat) (hm : m ≠ 0) (h53 : m < 9007199254740992) : 4503599627370496 ≤ sig m ∧ sig m < 9007199254740992 ∧ m.log2 ≤ 52 := by
  have hl : m.log2 ≤ 52 := by
    have : m.log2 < 53 := (Nat.log2_lt hm).2 (by simpa using h53)
    omega
  have hs : sig m ≠ 0 := by
    unfold sig; rw [Nat.shiftLeft_eq]; exact Nat.mul_ne_zero hm (by have := Nat.two_pow_pos (52 - m.log2); omega)
  have h2 : (sig m).log2 = 52 := by unfold sig; rw [log2_shift m _ hm]; omega
  have h3 := Nat.log2_self_le hs
  have h4 := Nat.lt_log2_self (n := sig m)
  rw [h2] at h3 h4
  exact ⟨by simpa using h3, by simpa using h4, hl⟩
theorem sig_log2 (m : Nat) (hm : m ≠ 0) (h53 : m < 9007199254740992) : (sig m).log2 = 52 := by
  have := (sig_bounds m hm h53).2.2
  unfold sig; rw [log2_shift m _ hm]; omega

/-- The bits of '± sig m * 2 ^ i', with the place i of its last digit. -/
def fbits (neg : Bool) (s : Nat) (i : Int) : Nat := double.word neg ((i + 1074).toNat * 4503599627370496 + s)

theorem cut0 (neg : Bool) (n : Nat) : Toward.even.cut neg n 0 = n := by
  unfold Toward.cut
  simp [Nat.mod_one]

theorem d_bin : double.binade = 4503599627370496 := by decide
theorem d_inf : double.infRung = 9218868437227405312 := by decide
theorem d_low : double.leastPlace = -1074 := by decide
theorem d_frac : double.fractionBits = 52 := by decide

theorem nearest_exact (neg : Bool) (m : Nat) (e : Int) (hm : m ≠ 0) (h53 : m < 9007199254740992) (he0 : -900 ≤ e) (he1 : e ≤ 0) : double.nearest neg m e = fbits neg (sig m) (e + m.log2 - 52) := by
  obtain ⟨b1, b2, b3⟩ := sig_bounds m hm h53
  unfold Format.nearest fbits
  rw [if_neg hm, d_bin, d_inf, d_low, d_frac]
  have e1 : max (e + (m.log2 : Int) - ((52 : Nat) : Int)) (-1074) = e + m.log2 - 52 := by omega
  simp only [e1]
  have e2 : (e - (e + (m.log2 : Int) - 52)).toNat = 52 - m.log2 := by omega
  have e3 : (e + (m.log2 : Int) - 52 - e).toNat = 0 := by omega
  have e4 : (e + (m.log2 : Int) - 52 - -1074).toNat = (e + m.log2 - 52 + 1074).toNat := by omega
  rw [e2, e3, cut0, e4]
  generalize hk : (e + (m.log2 : Int) - 52 + 1074).toNat = k
  have hk2 : k ≤ 1074 := by omega
  have hsg : m <<< (52 - m.log2) = sig m := rfl
  rw [hsg]
  generalize sig m = s at *
  clear e1 e2 e3 e4 hsg
  rw [Nat.min_eq_left (by omega)]

theorem read_fbits (neg : Bool) (s : Nat) (i : Int) (h1 : 4503599627370496 ≤ s) (h2 : s < 9007199254740992) (hi0 : -1000 ≤ i) (hi1 : i ≤ 0) : double.read (fbits neg s i) = .number neg s i := by
  unfold Format.read fbits Format.word
  obtain ⟨k, hk⟩ : ∃ k : Nat, (i + 1074).toNat = k := ⟨_, rfl⟩
  have hki : i = (k : Int) - 1074 := by omega
  rw [hk]
  have hsw : double.signWeight = 9223372036854775808 := by decide
  simp only [hsw, d_bin, d_inf, d_low]
  have hr : ∀ w, w = (if neg = true then 9223372036854775808 + (k * 4503599627370496 + s) else k * 4503599627370496 + s) → w % 9223372036854775808 = k * 4503599627370496 + s ∧ (w / 9223372036854775808 % 2 == 1) = neg := by
    intro w hw
    cases neg
    · simp only [Bool.false_eq_true, if_false] at hw
      subst hw
      refine ⟨by omega, ?_⟩
      have : (k * 4503599627370496 + s) / 9223372036854775808 = 0 := by omega
      rw [this]; rfl
    · simp only [if_true] at hw
      subst hw
      refine ⟨by omega, ?_⟩
      have : (9223372036854775808 + (k * 4503599627370496 + s)) / 9223372036854775808 = 1 := by omega
      rw [this]; rfl
  obtain ⟨r1, r2⟩ := hr _ rfl
  rw [r1, r2, if_neg (by omega), if_pos (by omega)]
  congr 1
  · omega
  · omega

theorem nearest_sig8 (neg : Bool) (s : Nat) (i : Int) (h1 : 4503599627370496 ≤ s) (h2 : s < 9007199254740992) (hi0 : -900 ≤ i) (hi1 : i ≤ 0) : double.nearest neg (8 * s) (i - 3) = fbits neg s i := by
  have hs : s ≠ 0 := by omega
  have hl : s.log2 = 52 := by
    have a := (Nat.log2_lt (n := s) (k := 53) hs).2 (by simpa using h2)
    have b := (Nat.le_log2 (n := s) (k := 52) hs).2 (by simpa using h1)
    omega
  have hl8 : (8 * s).log2 = 55 := by
    have : 8 * s = s <<< 3 := by rw [Nat.shiftLeft_eq]; omega
    rw [this, log2_shift s 3 hs, hl]
  unfold Format.nearest fbits
  rw [if_neg (by omega), hl8, d_bin, d_inf, d_low, d_frac]
  have e1 : max (i - 3 + ((55 : Nat) : Int) - ((52 : Nat) : Int)) (-1074) = i := by omega
  simp only [e1]
  have e2 : (i - 3 - i).toNat = 0 := by omega
  have e3 : (i - (i - 3)).toNat = 3 := by omega
  have e6 : (i - -1074).toNat = (i + 1074).toNat := by omega
  rw [e2, e3, e6]
  have e4 : Toward.even.cut neg ((8 * s) <<< 0) 3 = s := by
    rw [Nat.shiftLeft_zero]
    unfold Toward.cut
    rw [hl8]
    have g : (1 : Nat) <<< min 3 (55 + 2) = 8 := by decide
    simp only [g]
    have r : 8 * s % 8 = 0 := by omega
    have d : 8 * s / 8 = s := by omega
    rw [r, d]
    simp
  rw [e4]
  generalize hk : (i + 1074).toNat = k
  have hk2 : k ≤ 1074 := by omega
  clear e1 e2 e3 e4 e6
  rw [Nat.min_eq_left (by omega)]

/-- Half of a whole number below 2^53 is exact. -/
theorem div_two (neg : Bool) (s : Nat) (i : Int) (h1 : 4503599627370496 ≤ s) (h2 : s < 9007199254740992) (hi0 : -800 ≤ i) (hi1 : i ≤ 0) : double.div (fbits neg s i) 4611686018427387904 = some (fbits neg s (i - 1)) := by
  have htwo : double.read 4611686018427387904 = .number false 4503599627370496 (-51) := by decide
  have hs : s ≠ 0 := by omega
  have hl : s.log2 = 52 := by
    have a := (Nat.log2_lt (n := s) (k := 53) hs).2 (by simpa using h2)
    have b := (Nat.le_log2 (n := s) (k := 52) hs).2 (by simpa using h1)
    omega
  have hl2 : (4503599627370496 : Nat).log2 = 52 := by decide
  unfold Format.div
  rw [read_fbits neg s i h1 h2 (by omega) hi1, htwo]
  show (Datum.quotient 54 _ _).map double.write = _
  unfold Datum.quotient
  simp only
  rw [if_neg (by decide), hl, hl2]
  have hm : (54 + 52 - 52 : Nat) = 54 := rfl
  simp only [hm, Nat.shiftLeft_eq, Option.map_some, Bool.xor_false]
  have e1 : s * 2 ^ 54 / 4503599627370496 = 4 * s := by
    have : s * 2 ^ 54 = 4503599627370496 * (4 * s) := by
      have : (2 : Nat) ^ 54 = 18014398509481984 := by decide
      rw [this]; omega
    rw [this, Nat.mul_div_cancel_left _ (by decide)]
  have e2 : s * 2 ^ 54 % 4503599627370496 = 0 := by
    have : s * 2 ^ 54 = 4503599627370496 * (4 * s) := by
      have : (2 : Nat) ^ 54 = 18014398509481984 := by decide
      rw [this]; omega
    rw [this, Nat.mul_mod_right]
  rw [e1, e2]
  have e3 : 2 * (4 * s) + (0 != 0 : Bool).toNat = 8 * s := by simp; omega
  rw [e3]
  show some (double.nearest neg (8 * s) (i - -51 - ((54 : Nat) : Int) - 1)) = _
  have e4 : i - -51 - ((54 : Nat) : Int) - 1 = (i - 1) - 3 := by omega
  rw [e4, nearest_sig8 neg s (i - 1) h1 h2 (by omega) (by omega)]

/-- The bits of h / 2. -/
def hbits (h : Int) : Nat := fbits (decide (h < 0)) (sig h.natAbs) (h.natAbs.log2 - 53)
theorem half_bits (h : Int) (h0 : h ≠ 0) (h1 : -9007199254740992 < h) (h2 : h < 9007199254740992) : floatBits .quo .f64 (floatOfInt .f64 h) 4611686018427387904 = some (hbits h) := by
  have hn : h.natAbs ≠ 0 := by omega
  have hlt : h.natAbs < 9007199254740992 := by omega
  obtain ⟨b1, b2, b3⟩ := sig_bounds _ hn hlt
  have e1 : floatOfInt .f64 h = fbits (decide (h < 0)) (sig h.natAbs) (h.natAbs.log2 - 52) := by
    show double.nearest (decide (h < 0)) h.natAbs 0 = _
    rw [nearest_exact _ _ _ hn hlt (by decide) (by decide)]
    congr 1; omega
  show double.div (floatOfInt .f64 h) 4611686018427387904 = _
  rw [e1, div_two _ _ _ b1 b2 (by omega) (by omega)]
  unfold hbits
  congr 2; omega
end Go.Proofs.YtpigccnlembfdaaGreatDoor
