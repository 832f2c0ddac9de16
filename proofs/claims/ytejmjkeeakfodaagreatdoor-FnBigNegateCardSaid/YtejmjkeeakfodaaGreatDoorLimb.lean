/- Numbers as rows of 32-bit digits, the least first: what multiplying, adding and dividing by one digit make of them; decimal digits, the least first. Plain Lean. Conditions: as each theorem states. -/
import Derived.Test.YtejmjkeeakfodaaGreatDoorDec
namespace Go.Proofs.YtejmjkeeakfodaaGreatDoor
open Go.Lib

/-- What a row of digits spells. -/
def lval : List Nat → Nat
  | [] => 0
  | a :: r => a + 4294967296 * lval r
def Limbs (l : List Nat) : Prop := ∀ a ∈ l, a < 4294967296
theorem lval_append : ∀ (a b : List Nat), lval (a ++ b) = lval a + 4294967296 ^ a.length * lval b
  | [], b => by simp [lval]
  | x :: a, b => by
    have h := lval_append a b
    simp only [List.cons_append, lval, h, List.length_cons, Nat.pow_succ]
    rw [Nat.mul_add, Nat.add_assoc]
    congr 1; congr 1
    rw [← Nat.mul_assoc]
    congr 1
    exact Nat.mul_comm _ _
theorem lval_snoc (a : List Nat) (x : Nat) : lval (a ++ [x]) = lval a + 4294967296 ^ a.length * x := by rw [lval_append]; simp [lval]
theorem lval_zero (a : List Nat) : lval (a ++ [0]) = lval a := by rw [lval_snoc]; omega
/-- Nonzero at the top: not zero. -/
theorem lval_pos {l : List Nat} (hne : l ≠ []) (h : l.getLast hne ≠ 0) : lval l ≠ 0 := by
  have e := (List.dropLast_concat_getLast hne).symm
  rw [e, lval_snoc]
  have : 1 ≤ 4294967296 ^ l.dropLast.length * l.getLast hne := Nat.mul_pos (Nat.pow_pos (by decide)) (Nat.pos_of_ne_zero h)
  omega

/-- One digit more of x * y + r: z the digits made, c what is carried. -/
theorem mulAdd_step {z : List Nat} {x : List Nat} {k c y r a : Nat} (hk : z.length = k) (hx : x[k]? = some a) (h : lval z + 4294967296 ^ k * c = lval (x.take k) * y + r) :
    lval (z ++ [(c + a * y) % 4294967296]) + 4294967296 ^ (k + 1) * ((c + a * y) / 4294967296) = lval (x.take (k + 1)) * y + r := by
  obtain ⟨hlt, rfl⟩ := List.getElem?_eq_some_iff.1 hx
  have e : x.take (k + 1) = x.take k ++ [x[k]] := by rw [List.take_add_one, List.getElem?_eq_getElem hlt]; rfl
  have hl : (x.take k).length = k := by rw [List.length_take]; omega
  rw [e, lval_snoc, lval_snoc, hl, hk, Nat.pow_succ]
  have hdiv := Nat.div_add_mod (c + x[k] * y) 4294967296
  generalize (c + x[k] * y) / 4294967296 = q at *
  generalize (c + x[k] * y) % 4294967296 = m at *
  have e2 : 4294967296 ^ k * m + 4294967296 ^ k * 4294967296 * q = 4294967296 ^ k * (c + x[k] * y) := by
    rw [← hdiv, Nat.mul_add, Nat.mul_assoc]; omega
  have e3 : 4294967296 ^ k * (c + x[k] * y) = 4294967296 ^ k * c + 4294967296 ^ k * x[k] * y := by rw [Nat.mul_add, Nat.mul_assoc]
  rw [Nat.add_mul]
  omega
theorem carry_lt {c a y : Nat} (hc : c < 4294967296) (ha : a < 4294967296) (hy : y < 4294967296) : c + a * y < 18446744073709551616 ∧ (c + a * y) / 4294967296 < 4294967296 := by
  have h1 : a * y ≤ 4294967295 * 4294967295 := Nat.mul_le_mul (by omega) (by omega)
  omega

/-- One digit more of x / y, from the top: q the digits made, c the rest. -/
theorem divW_step {q x : List Nat} {i c y a : Nat} (hx : x[i]? = some a) (h : lval (x.drop (i + 1)) = lval q * y + c) :
    lval (x.drop i) = lval (((c * 4294967296 + a) / y) :: q) * y + (c * 4294967296 + a) % y := by
  obtain ⟨hlt, rfl⟩ := List.getElem?_eq_some_iff.1 hx
  rw [List.drop_eq_getElem_cons hlt]
  simp only [lval]
  rw [h, Nat.mul_add, Nat.add_mul]
  have hd := Nat.div_add_mod (c * 4294967296 + x[i]) y
  rw [Nat.mul_comm y] at hd
  have e : 4294967296 * (lval q * y) = 4294967296 * lval q * y := (Nat.mul_assoc _ _ _).symm
  omega
theorem quot_lt {c a y : Nat} (hc : c < y) (ha : a < 4294967296) : (c * 4294967296 + a) / y < 4294967296 := by
  apply Nat.div_lt_of_lt_mul
  have : (c + 1) * 4294967296 ≤ y * 4294967296 := Nat.mul_le_mul_right _ hc
  omega

/-- The decimal digits of a number, the least first; none of 0. -/
def rdig (n : Nat) : List Nat := if h : n = 0 then [] else (n % 10) :: rdig (n / 10)
  termination_by n
  decreasing_by omega
theorem rdig_zero : rdig 0 = [] := by rw [rdig]; simp
theorem rdig_pos {n : Nat} (h : n ≠ 0) : rdig n = (n % 10) :: rdig (n / 10) := by rw [rdig, dif_neg h]
theorem dec_rdig (n : Nat) (h : n ≠ 0) : decDigits n = (rdig n).reverse.map fun d => UInt8.ofNat (48 + d) := by
  induction n using Nat.strongRecOn with
  | _ n ih =>
    rw [rdig_pos h]
    by_cases h10 : n < 10
    · rw [dec_small h10, show n / 10 = 0 by omega, rdig_zero, show n % 10 = n by omega]; rfl
    · rw [dec_big h10, ih (n / 10) (by omega) (by omega)]
      simp
theorem rdig_length (k : Nat) : ∀ (n : Nat), n < 10 ^ k → (rdig n).length ≤ k := by
  induction k with
  | zero => intro n h; obtain rfl : n = 0 := by simpa using h
            rw [rdig_zero]; simp
  | succ k ih =>
    intro n h
    by_cases h0 : n = 0
    · rw [h0, rdig_zero]; simp
    · rw [rdig_pos h0, List.length_cons]
      have := ih (n / 10) (by rw [Nat.pow_succ] at h; omega)
      omega
theorem val_lt : ∀ (n : Nat) (l : List UInt8), l.length = n → Digs l → val l < 10 ^ n
  | 0, l, hl, _ => by rw [List.length_eq_zero_iff.1 hl]; decide
  | n + 1, l, hl, hd => by
    have hne : l ≠ [] := by rintro rfl; simp at hl
    have e := (List.dropLast_concat_getLast hne).symm
    generalize hdl : l.dropLast = d at e
    generalize hgl : l.getLast hne = c at e
    have hdlen : d.length = n := by rw [← hdl, List.length_dropLast]; omega
    rw [e] at hd ⊢
    obtain ⟨h1, h2, h3⟩ := digs_snoc hd
    have ih := val_lt n d hdlen h1
    rw [val_snoc, Nat.pow_succ]; omega
end Go.Proofs.YtejmjkeeakfodaaGreatDoor
