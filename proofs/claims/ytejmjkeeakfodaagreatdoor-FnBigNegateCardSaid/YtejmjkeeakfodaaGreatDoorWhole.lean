/- Decimal texts of integers: which lists of bytes they are, and what their signs say. Plain Lean. Conditions: none. -/
import Derived.Test.YtejmjkeeakfodaaGreatDoorDec
namespace Go.Proofs.YtejmjkeeakfodaaGreatDoor
open Go.Lib

/-- A text without its sign. -/
def unsg : List UInt8 → List UInt8
  | [] => []
  | c :: r => if c.toNat = 45 then r else c :: r
theorem unsg_yes {c : UInt8} {r : List UInt8} (h : c.toNat = 45) : unsg (c :: r) = r := if_pos h
theorem unsg_no {c : UInt8} {r : List UInt8} (h : ¬ c.toNat = 45) : unsg (c :: r) = c :: r := if_neg h
theorem itoa_lt {z : Int} (h : z < 0) : itoa z = 45 :: decDigits z.natAbs := by unfold itoa; rw [if_pos h]
theorem itoa_ge {z : Int} (h : ¬ z < 0) : itoa z = decDigits z.toNat := by unfold itoa; rw [if_neg h]
theorem unsg_dec (n : Nat) : unsg (decDigits n) = decDigits n := by
  obtain ⟨c, r, h, h1, h2⟩ := dec_head n
  rw [h]
  exact unsg_no (by omega)
theorem unsg_itoa (z : Int) : unsg (itoa z) = decDigits z.natAbs := by
  by_cases h : z < 0
  · rw [itoa_lt h]; rfl
  · rw [itoa_ge h, unsg_dec]
    congr 1
    omega
/-- What IsWhole asks makes a text the numeral of an integer. -/
theorem whole_itoa (l : List UInt8) (hne : unsg l ≠ []) (hz : (∀ c, (unsg l)[0]? = some c → c.toNat ≠ 48) ∨ l = [48]) (hd : Digs (unsg l)) : ∃ z : Int, l = itoa z := by
  cases l with
  | nil => exact absurd rfl hne
  | cons c r =>
    by_cases hc : c.toNat = 45
    · have hr : unsg (c :: r) = r := unsg_yes hc
      rw [hr] at hne hz hd
      have hz' : ∀ x, r[0]? = some x → x.toNat ≠ 48 := by
        rcases hz with h | h
        · exact h
        · simp only [List.cons.injEq] at h
          rw [h.1] at hc
          exact absurd hc (by decide)
      have e := dec_unique r.length r rfl hd hne (Or.inr hz')
      have hv : val r ≠ 0 := by
        intro h0
        rw [h0, dec_small (by decide)] at e
        exact hz' 48 (by rw [e]; rfl) rfl
      refine ⟨-(val r : Int), ?_⟩
      rw [itoa_lt (by omega), show (-(val r : Int)).natAbs = val r by omega, ← e]
      congr 1
      exact UInt8.toNat.inj hc
    · have hr : unsg (c :: r) = c :: r := unsg_no hc
      rw [hr] at hne hz hd
      have e := dec_unique _ (c :: r) rfl hd hne (by
        rcases hz with h | h
        · exact Or.inr h
        · exact Or.inl h)
      refine ⟨(val (c :: r) : Int), ?_⟩
      rw [itoa_ge (by omega), show ((val (c :: r) : Int)).toNat = val (c :: r) by omega]
      exact e
/-- A string's bytes as a list. -/
theorem bytes_eq {s t : ByteArray} (h : s.data.toList = t.data.toList) : s = t := by
  cases s; cases t; simp only [ByteArray.mk.injEq]; exact Array.toList_inj.1 h
theorem get_list (s : ByteArray) (i : Nat) (h : i < s.size) : s.data.toList[i]? = some (s[i]'h) := by
  have : i < s.data.toList.length := by simpa using h
  rw [List.getElem?_eq_getElem this]; rfl
/-- The string of a list. -/
def str (l : List UInt8) : ByteArray := ⟨l.toArray⟩
theorem str_size (l : List UInt8) : (str l).size = l.length := by simp [str, ByteArray.size]
theorem str_list (l : List UInt8) : (str l).data.toList = l := by simp [str]
theorem str_of (s : ByteArray) : str s.data.toList = s := by cases s; simp [str]
theorem str_get (l : List UInt8) (i : Nat) (h : i < (str l).size) : l[i]? = some ((str l)[i]'h) := by
  have := get_list (str l) i h
  rwa [str_list] at this
theorem itoa_ne (z : Int) : itoa z ≠ [] := by
  by_cases h : z < 0
  · rw [itoa_lt h]; simp
  · rw [itoa_ge h]; exact (dec_facts _).2.2.1
/-- The numeral of the opposite. -/
theorem itoa_opp (z : Int) : itoa (-z) = if z < 0 then decDigits z.natAbs else if z = 0 then decDigits z.natAbs else 45 :: decDigits z.natAbs := by
  by_cases h : z < 0
  · rw [if_pos h, itoa_ge (by omega)]; congr 1; omega
  · rw [if_neg h]
    by_cases h0 : z = 0
    · rw [if_pos h0, itoa_ge (by omega)]; congr 1; omega
    · rw [if_neg h0, itoa_lt (by omega)]; congr 2; omega
theorem dec_zero {n : Nat} (h : decDigits n = [48]) : n = 0 := by
  have := (dec_facts n).2.1
  rw [h] at this
  exact this.symm
theorem dec_none {n : Nat} : decDigits n ≠ [] := (dec_facts n).2.2.1
end Go.Proofs.YtejmjkeeakfodaaGreatDoor
