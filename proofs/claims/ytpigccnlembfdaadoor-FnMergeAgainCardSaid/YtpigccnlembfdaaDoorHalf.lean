/- Floats of whole numbers and halves below 2^53: doubling a half is exact, cutting a whole number changes nothing, how it compares, what integer it is; the walk of impl.half. Conditions: as each theorem states. -/
import Derived.Test.YtpigccnlembfdaaDoorGiven
import Derived.Laws.Externs
namespace Go.Proofs.YtpigccnlembfdaaDoor
open Ieee Go.RowKit

theorem nearest_shift (k : Nat) (hk : k ≤ 60) (neg : Bool) (s : Nat) (i : Int) (h1 : 4503599627370496 ≤ s) (h2 : s < 9007199254740992) (hi0 : -900 ≤ i) (hi1 : i ≤ 0) : double.nearest neg (s <<< k) (i - k) = fbits neg s i := by
  have hs : s ≠ 0 := by omega
  have hl : s.log2 = 52 := by
    have a := (Nat.log2_lt (n := s) (k := 53) hs).2 (by simpa using h2)
    have b := (Nat.le_log2 (n := s) (k := 52) hs).2 (by simpa using h1)
    omega
  have hlk : (s <<< k).log2 = 52 + k := by rw [log2_shift s k hs, hl]
  have hpos := Nat.two_pow_pos k
  have hne : s <<< k ≠ 0 := by rw [Nat.shiftLeft_eq]; exact Nat.mul_ne_zero hs (by omega)
  unfold Format.nearest fbits
  rw [if_neg hne, hlk, d_bin, d_inf, d_low, d_frac]
  have e1 : max (i - (k : Int) + (((52 + k : Nat)) : Int) - ((52 : Nat) : Int)) (-1074) = i := by omega
  simp only [e1]
  have e2 : (i - (k : Int) - i).toNat = 0 := by omega
  have e3 : (i - (i - (k : Int))).toNat = k := by omega
  have e6 : (i - -1074).toNat = (i + 1074).toNat := by omega
  rw [e2, e3, e6]
  have e4 : Toward.even.cut neg ((s <<< k) <<< 0) k = s := by
    rw [Nat.shiftLeft_zero]
    unfold Toward.cut
    rw [hlk]
    have g : min k (52 + k + 2) = k := by omega
    simp only [g]
    have g2 : (1 : Nat) <<< k = 2 ^ k := by rw [Nat.shiftLeft_eq, Nat.one_mul]
    rw [g2, Nat.shiftLeft_eq, Nat.mul_mod_left, Nat.mul_div_cancel _ hpos]
    simp
  rw [e4]
  generalize hk1 : (i + 1074).toNat = k1
  have hk2 : k1 ≤ 1074 := by omega
  clear e1 e2 e3 e4 e6
  rw [Nat.min_eq_left (by omega)]

/-- The bits of h. -/
def ibits (h : Int) : Nat := fbits (decide (h < 0)) (sig h.natAbs) (h.natAbs.log2 - 52)
theorem read_two : double.read 4611686018427387904 = .number false 4503599627370496 (-51) := by decide
theorem read_lo : double.read 14109777632551763968 = .number true 4503599627370496 10 := by decide
theorem read_hi : double.read 4886405595696988160 = .number false 4503599627370496 10 := by decide

theorem twice_bits (h : Int) (h0 : h ≠ 0) (h1 : -9007199254740992 < h) (h2 : h < 9007199254740992) : floatBits .mul .f64 4611686018427387904 (hbits h) = some (ibits h) := by
  obtain ⟨b1, b2, b3⟩ := sig_bounds h.natAbs (by omega) (by omega)
  show double.mul 4611686018427387904 (hbits h) = _
  unfold Format.mul hbits
  rw [read_two, read_fbits _ _ _ b1 b2 (by omega) (by omega)]
  show some (double.nearest (false ^^ decide (h < 0)) (4503599627370496 * sig h.natAbs) (-51 + ((h.natAbs.log2 : Int) - 53))) = _
  rw [Bool.false_xor, show 4503599627370496 * sig h.natAbs = sig h.natAbs <<< 52 by rw [Nat.shiftLeft_eq]; omega, show (-51 + ((h.natAbs.log2 : Int) - 53)) = ((h.natAbs.log2 : Int) - 52) - (52 : Nat) by omega,
    nearest_shift 52 (by decide) _ _ _ b1 b2 (by omega) (by omega)]
  rfl
theorem read_ibits (h : Int) (h0 : h ≠ 0) (h1 : -9007199254740992 < h) (h2 : h < 9007199254740992) : double.read (ibits h) = .number (decide (h < 0)) (sig h.natAbs) (h.natAbs.log2 - 52) := by
  obtain ⟨b1, b2, b3⟩ := sig_bounds h.natAbs (by omega) (by omega)
  exact read_fbits _ _ _ b1 b2 (by omega) (by omega)
theorem cut_sig (neg : Bool) (m : Nat) (hm : m ≠ 0) (h53 : m < 9007199254740992) : Toward.zero.cut neg (sig m <<< ((m.log2 : Int) - 52).toNat) (-((m.log2 : Int) - 52)).toNat = m := by
  obtain ⟨b1, b2, b3⟩ := sig_bounds m hm h53
  rw [show ((m.log2 : Int) - 52).toNat = 0 by omega, show (-((m.log2 : Int) - 52)).toNat = 52 - m.log2 by omega, Nat.shiftLeft_zero]
  unfold Toward.cut
  rw [sig_log2 m hm h53]
  have g : min (52 - m.log2) (52 + 2) = 52 - m.log2 := by omega
  have g2 : (1 : Nat) <<< (52 - m.log2) = 2 ^ (52 - m.log2) := by rw [Nat.shiftLeft_eq, Nat.one_mul]
  simp only [g, g2]
  unfold sig
  rw [Nat.shiftLeft_eq, Nat.mul_div_cancel _ (Nat.two_pow_pos _)]
  rfl
theorem integral_ibits (h : Int) (h0 : h ≠ 0) (h1 : -9007199254740992 < h) (h2 : h < 9007199254740992) : (double.read (ibits h)).integral .zero = .number (decide (h < 0)) h.natAbs 0 := by
  rw [read_ibits h h0 h1 h2]
  show Datum.number _ (Toward.zero.cut _ _ _) 0 = _
  rw [cut_sig _ _ (by omega) (by omega)]
theorem write_ibits (h : Int) (h0 : h ≠ 0) (h1 : -9007199254740992 < h) (h2 : h < 9007199254740992) : double.write (.number (decide (h < 0)) h.natAbs 0) = ibits h := by
  show double.nearest (decide (h < 0)) h.natAbs 0 = _
  rw [nearest_exact _ _ _ (by omega) (by omega) (by decide) (by decide)]
  unfold ibits
  congr 1; omega
theorem order_self (h : Int) (h0 : h ≠ 0) (h1 : -9007199254740992 < h) (h2 : h < 9007199254740992) : double.order (ibits h) (ibits h) = some .eq := by
  unfold Format.order
  rw [read_ibits h h0 h1 h2]
  simp only [Datum.order, Option.some.injEq]
  simp [compare, compareOfLessAndEq]
theorem shl_big (n : Nat) : 4503599627370496 * 1024 ≤ 4503599627370496 <<< (n + 10) := by
  rw [Nat.shiftLeft_eq, Nat.pow_add]
  have := Nat.two_pow_pos n
  have : 1 * 2 ^ 10 ≤ 2 ^ n * 2 ^ 10 := Nat.mul_le_mul_right _ this
  omega
theorem order_lo (h : Int) (h0 : h ≠ 0) (h1 : -9007199254740992 < h) (h2 : h < 9007199254740992) : double.order (ibits h) 14109777632551763968 = some .gt := by
  obtain ⟨b1, b2, b3⟩ := sig_bounds h.natAbs (by omega) (by omega)
  unfold Format.order
  rw [read_ibits h h0 h1 h2, read_lo]
  simp only [Datum.order, Option.some.injEq]
  rw [show min ((h.natAbs.log2 : Int) - 52) 10 = (h.natAbs.log2 : Int) - 52 by omega, show ((h.natAbs.log2 : Int) - 52 - ((h.natAbs.log2 : Int) - 52)).toNat = 0 by omega,
    show (10 - ((h.natAbs.log2 : Int) - 52)).toNat = (52 - h.natAbs.log2) + 10 by omega]
  have hb := shl_big (52 - h.natAbs.log2)
  unfold signed
  generalize 4503599627370496 <<< (52 - h.natAbs.log2 + 10) = z at *
  generalize sig h.natAbs = s at *
  rw [Nat.shiftLeft_zero]
  simp only [if_true]
  have : ¬ ((if decide (h < 0) = true then -(s : Int) else (s : Int)) < -(z : Int)) := by split <;> omega
  have ne : ¬ ((if decide (h < 0) = true then -(s : Int) else (s : Int)) = -(z : Int)) := by split <;> omega
  simp only [compare, compareOfLessAndEq]
  rw [if_neg this, if_neg ne]
theorem order_hi (h : Int) (h0 : h ≠ 0) (h1 : -9007199254740992 < h) (h2 : h < 9007199254740992) : double.order (ibits h) 4886405595696988160 = some .lt := by
  obtain ⟨b1, b2, b3⟩ := sig_bounds h.natAbs (by omega) (by omega)
  unfold Format.order
  rw [read_ibits h h0 h1 h2, read_hi]
  simp only [Datum.order, Option.some.injEq]
  rw [show min ((h.natAbs.log2 : Int) - 52) 10 = (h.natAbs.log2 : Int) - 52 by omega, show ((h.natAbs.log2 : Int) - 52 - ((h.natAbs.log2 : Int) - 52)).toNat = 0 by omega,
    show (10 - ((h.natAbs.log2 : Int) - 52)).toNat = (52 - h.natAbs.log2) + 10 by omega]
  have hb := shl_big (52 - h.natAbs.log2)
  unfold signed
  generalize 4503599627370496 <<< (52 - h.natAbs.log2 + 10) = z at *
  generalize sig h.natAbs = s at *
  rw [Nat.shiftLeft_zero]
  simp only [Bool.false_eq_true, if_false]
  have : (if decide (h < 0) = true then -(s : Int) else (s : Int)) < (z : Int) := by split <;> omega
  simp only [compare, compareOfLessAndEq]
  rw [if_pos this]
theorem int_ibits (h : Int) (h0 : h ≠ 0) (h1 : -9007199254740992 < h) (h2 : h < 9007199254740992) : floatToIntVal .f64 (ibits h) .i64 = some h := by
  unfold floatToIntVal
  have e : (FloatKind.f64.decode (ibits h)).toInt .zero = some h := by
    show (match (double.read (ibits h)).integral .zero with | .number s m _ => some (signed s m 0) | _ => none) = some h
    rw [integral_ibits h h0 h1 h2]
    simp only [signed, Nat.shiftLeft_zero, Option.some.injEq]
    by_cases hn : h < 0
    · rw [if_pos (by simpa using hn)]; omega
    · rw [if_neg (by simpa using hn)]; omega
  rw [e]
  have : IntKind.i64.min ≤ h ∧ h ≤ IntKind.i64.max := by
    have e1 : IntKind.i64.min = -9223372036854775808 := by decide
    have e2 : IntKind.i64.max = 9223372036854775807 := by decide
    rw [e1, e2]; omega
  simp only [this, and_self, if_true]
theorem run_trunc (h : Int) (h0 : h ≠ 0) (h1 : -9007199254740992 < h) (h2 : h < 9007199254740992) (w : World) :
    (callFunc 46 #[.float .f64 (ibits h)]).run Tryd.prog w = .ok (.value (.float .f64 (ibits h))) w := by
  rw [run_callFunc_extern (e := Extern.MathFloor.toIntegral "math.archTrunc" .zero) Tryd.func46 (by kernel_rfl) (by kernel_rfl) (by kernel_rfl) (by kernel_rfl)]
  have e : (Extern.MathFloor.toIntegral "math.archTrunc" .zero #[.float .f64 (ibits h)]).run Tryd.prog w = .ok (.float .f64 (ibits h)) w := by
    have e1 : FloatKind.f64.decode (ibits h) = .number (decide (h < 0)) (sig h.natAbs) (h.natAbs.log2 - 52) := read_ibits h h0 h1 h2
    have e2 : FloatKind.f64.encode ((FloatKind.f64.decode (ibits h)).integral .zero) = ibits h := by
      show double.write ((double.read (ibits h)).integral .zero) = _
      rw [integral_ibits h h0 h1 h2, write_ibits h h0 h1 h2]
    change Sem.run Tryd.prog (match FloatKind.f64.decode (ibits h) with
      | .nan s t => _
      | d => pure (Value.float .f64 (FloatKind.f64.encode (d.integral .zero)))) w = _
    rw [e1] at e2 ⊢
    simp only [e2]
    rfl
  rw [e]; rfl
end Go.Proofs.YtpigccnlembfdaaDoor
