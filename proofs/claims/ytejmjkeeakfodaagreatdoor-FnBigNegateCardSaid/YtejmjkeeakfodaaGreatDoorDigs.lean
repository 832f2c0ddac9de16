/- Rows of decimal digits, the least first: lengths, bytes, turning round. Plain Lean. Conditions: as each theorem states. -/
import Derived.Test.YtejmjkeeakfodaaGreatDoorLimb
namespace Go.Proofs.YtejmjkeeakfodaaGreatDoor
open Go.Lib

theorem rdig_mono : ∀ (b a : Nat), a ≤ b → (rdig a).length ≤ (rdig b).length := by
  intro b
  induction b using Nat.strongRecOn with
  | _ b ih =>
    intro a hab
    by_cases ha : a = 0
    · rw [ha, rdig_zero]; simp
    · rw [rdig_pos ha, rdig_pos (show b ≠ 0 by omega), List.length_cons, List.length_cons]
      have := ih (b / 10) (by omega) (a / 10) (Nat.div_le_div_right hab)
      omega
/-- A tenth has a digit less. -/
theorem rdig_less {a b : Nat} (hb : b ≠ 0) (h : a ≤ b / 10) : (rdig a).length + 1 ≤ (rdig b).length := by
  rw [rdig_pos hb, List.length_cons]
  have := rdig_mono (b / 10) a h
  omega
/-- One digit of a number of which the lower part is r. -/
theorem rdig_step {X r p : Nat} (h : X * (10 * p) + r ≠ 0) : rdig (X * (10 * p) + r) = (r % 10) :: rdig (X * p + r / 10) := by
  rw [rdig_pos h]
  have e : X * (10 * p) = 10 * (X * p) := by rw [← Nat.mul_assoc, Nat.mul_comm X 10, Nat.mul_assoc]
  rw [e]
  congr 1
  · omega
  · congr 1; omega
theorem rdig_ten (n : Nat) : ∀ d ∈ rdig n, d < 10 := by
  induction n using Nat.strongRecOn with
  | _ n ih =>
    intro d hd
    by_cases h : n = 0
    · rw [h, rdig_zero] at hd; cases hd
    · rw [rdig_pos h] at hd
      rcases List.mem_cons.1 hd with rfl | hd
      · omega
      · exact ih (n / 10) (by omega) d hd

/-- A digit as a byte. -/
def byteOf (d : Nat) : UInt8 := UInt8.ofNat (48 + d)

/-- k swaps from both ends. -/
def Swapped {α : Type} (bs xs : List α) (k : Nat) : Prop := xs.length = bs.length ∧ ∀ i, i < bs.length → xs[i]? = if i < k ∨ bs.length - k ≤ i then bs[bs.length - 1 - i]? else bs[i]?
theorem swapped_start {α : Type} (bs : List α) : Swapped bs bs 0 := ⟨rfl, fun i hi => by rw [if_neg (by omega)]⟩
theorem swapped_end {α : Type} {bs xs : List α} {k : Nat} (h : Swapped bs xs k) (hk : bs.length ≤ 2 * k + 1) : xs = bs.reverse := by
  apply List.ext_getElem?
  intro i
  by_cases hi : i < bs.length
  · rw [h.2 i hi, List.getElem?_reverse hi]
    split
    · rfl
    · congr 1; omega
  · rw [List.getElem?_eq_none (by have := h.1; omega), List.getElem?_eq_none (by rw [List.length_reverse]; omega)]
theorem swapped_step {α : Type} {bs xs : List α} {k : Nat} {u v : α} (h : Swapped bs xs k) (hk : 2 * k + 2 ≤ bs.length) (hu : xs[k]? = some u) (hv : xs[bs.length - 1 - k]? = some v) :
    Swapped bs ((xs.set k v).set (bs.length - 1 - k) u) (k + 1) := by
  have hl := h.1
  refine ⟨by simp [hl], fun i hi => ?_⟩
  have h1 := h.2 k (by omega)
  have h2 := h.2 (bs.length - 1 - k) (by omega)
  rw [if_neg (by omega)] at h1 h2
  by_cases e1 : i = bs.length - 1 - k
  · subst e1
    rw [List.getElem?_set_self (by simp; omega), if_pos (by omega), show bs.length - 1 - (bs.length - 1 - k) = k by omega, ← h1, hu]
  · rw [List.getElem?_set_ne (by omega)]
    by_cases e2 : i = k
    · subst e2
      rw [List.getElem?_set_self (by omega), if_pos (by omega), ← h2, hv]
    · rw [List.getElem?_set_ne (by omega), h.2 i hi]
      by_cases e3 : i < k ∨ bs.length - k ≤ i
      · rw [if_pos e3, if_pos (by omega)]
      · rw [if_neg e3, if_neg (by omega)]
end Go.Proofs.YtejmjkeeakfodaaGreatDoor
