/- Decimal numerals: what digits spell, that a numeral without zeros in front is the numeral of what it spells, and what ParseInt makes of it. Plain Lean. Conditions: none. -/
import Derived.Test.YtpigccnlembfdaaGreatDoorRows
import Derived.Lib.ItoaNum
import Derived.Lib.ItoaMem
import Derived.Lib.ParseIntB
namespace Go.Proofs.YtpigccnlembfdaaGreatDoor
open Go.Lib

/-- What digits spell. -/
def val (l : List UInt8) : Nat := l.foldl (fun n c => n * 10 + (c.toNat - 48)) 0
theorem val_snoc (l : List UInt8) (c : UInt8) : val (l ++ [c]) = val l * 10 + (c.toNat - 48) := by simp [val]
def Digs (l : List UInt8) : Prop := ∀ c ∈ l, 48 ≤ c.toNat ∧ c.toNat ≤ 57
theorem digs_snoc {l : List UInt8} {c : UInt8} (h : Digs (l ++ [c])) : Digs l ∧ 48 ≤ c.toNat ∧ c.toNat ≤ 57 :=
  ⟨fun x hx => h x (List.mem_append_left _ hx), h c (List.mem_append_right _ (List.mem_singleton.2 rfl))⟩
theorem u8_of (n : Nat) (h : n < 256) : (UInt8.ofNat n).toNat = n := by simp; omega

theorem dec_small {u : Nat} (h : u < 10) : decDigits u = [UInt8.ofNat (48 + u)] := by rw [decDigits, dif_pos h]
theorem dec_big {u : Nat} (h : ¬ u < 10) : decDigits u = decDigits (u / 10) ++ [UInt8.ofNat (48 + u % 10)] := by rw [decDigits, dif_neg h]

/-- What a numeral is. -/
theorem dec_facts (u : Nat) : Digs (decDigits u) ∧ val (decDigits u) = u ∧ decDigits u ≠ [] ∧ (u ≠ 0 → ∀ c, (decDigits u)[0]? = some c → c.toNat ≠ 48) := by
  induction u using Nat.strongRecOn with
  | _ u ih =>
    by_cases h : u < 10
    · rw [dec_small h]
      have hu := u8_of (48 + u) (by omega)
      refine ⟨fun c hc => ?_, ?_, by simp, fun h0 c hc => ?_⟩
      · rw [List.mem_singleton.1 hc, hu]; omega
      · show 0 * 10 + ((UInt8.ofNat (48 + u)).toNat - 48) = u
        rw [hu]; omega
      · simp only [List.getElem?_cons_zero, Option.some.injEq] at hc
        rw [← hc, hu]; omega
    · obtain ⟨i1, i2, i3, i4⟩ := ih (u / 10) (by omega)
      rw [dec_big h]
      have hu := u8_of (48 + u % 10) (by omega)
      refine ⟨fun c hc => ?_, ?_, by simp, fun _ c hc => ?_⟩
      · rcases List.mem_append.1 hc with hc | hc
        · exact i1 c hc
        · rw [List.mem_singleton.1 hc, hu]; omega
      · rw [val_snoc, i2, hu]; omega
      · rw [List.getElem?_append_left (List.length_pos_iff.2 i3)] at hc
        exact i4 (by omega) c hc

/-- A numeral without zeros in front is the numeral of what it spells. -/
theorem dec_unique : ∀ (n : Nat) (l : List UInt8), l.length = n → Digs l → l ≠ [] → (l = [48] ∨ ∀ c, l[0]? = some c → c.toNat ≠ 48) → l = decDigits (val l)
  | 0, l, hl, _, hne, _ => absurd (List.length_eq_zero_iff.1 hl) hne
  | n + 1, l, hl, hd, hne, hz => by
    have e := (List.dropLast_concat_getLast hne).symm
    generalize hdl : l.dropLast = d at e
    generalize hgl : l.getLast hne = c at e
    have hdlen : d.length = n := by rw [← hdl, List.length_dropLast]; omega
    rw [e] at hd hz ⊢
    obtain ⟨h1, h2, h3⟩ := digs_snoc hd
    rw [val_snoc]
    by_cases hdn : d = []
    · subst hdn
      have hv : val [] = 0 := rfl
      rw [hv, dec_small (by omega)]
      simp only [List.nil_append, List.cons.injEq, and_true]
      apply UInt8.toNat.inj
      rw [u8_of _ (by omega)]; omega
    · have hz' : ∀ x, d[0]? = some x → x.toNat ≠ 48 := by
        rcases hz with hz | hz
        · have := congrArg List.length hz
          simp at this
          exact absurd this hdn
        · intro x hx
          exact hz x (by rw [List.getElem?_append_left (List.length_pos_iff.2 hdn)]; exact hx)
      have ih := dec_unique n d hdlen h1 hdn (Or.inr hz')
      have hv : val d ≠ 0 := by
        intro h0
        rw [h0, dec_small (by decide)] at ih
        exact hz' 48 (by rw [ih]; rfl) rfl
      rw [dec_big (by omega), show (val d * 10 + (c.toNat - 48)) / 10 = val d by omega, show (val d * 10 + (c.toNat - 48)) % 10 = c.toNat - 48 by omega, ← ih]
      congr 1
      simp only [List.cons.injEq, and_true]
      apply UInt8.toNat.inj
      rw [u8_of _ (by omega)]; omega

theorem val_cons (acc : Nat) : ∀ (l : List UInt8), l.foldl (fun n c => n * 10 + (c.toNat - 48)) acc = acc * 10 ^ l.length + val l
  | [] => by simp [val]
  | c :: r => by
    have h1 := val_cons (acc * 10 + (c.toNat - 48)) r
    have h2 := val_cons (0 * 10 + (c.toNat - 48)) r
    show r.foldl _ (acc * 10 + (c.toNat - 48)) = _
    have e : val (c :: r) = r.foldl (fun n c => n * 10 + (c.toNat - 48)) (0 * 10 + (c.toNat - 48)) := rfl
    rw [h1, e, h2, List.length_cons, Nat.pow_succ]
    rw [Nat.add_mul, Nat.zero_mul, Nat.zero_add, Nat.mul_assoc, Nat.mul_comm 10, Nat.add_assoc]

/-- ParseUint's loop over digits. -/
theorem parseM (M : Nat) (hM : M ≤ 18446744073709551615) : ∀ (l : List UInt8) (acc : Nat), Digs l → acc ≤ M → parseUintM M acc l = if l.foldl (fun n c => n * 10 + (c.toNat - 48)) acc ≤ M then .ok (l.foldl (fun n c => n * 10 + (c.toNat - 48)) acc) else .range
  | [], acc, _, ha => by simp [parseUintM, ha]
  | c :: r, acc, hd, _ => by
    have hc := hd c (List.mem_cons_self ..)
    have hr : Digs r := fun x hx => hd x (List.mem_cons_of_mem _ hx)
    have hge : ∀ (l : List UInt8) (a : Nat), a ≤ l.foldl (fun n c => n * 10 + (c.toNat - 48)) a := fun l => by
      induction l with
      | nil => intro a; exact Nat.le_refl _
      | cons x l ih => intro a; exact Nat.le_trans (by omega) (ih (a * 10 + (x.toNat - 48)))
    have h1 := hge r (acc * 10 + (c.toNat - 48))
    simp only [parseUintM, List.foldl_cons]
    rw [if_pos hc]
    by_cases h2 : 1844674407370955162 ≤ acc
    · rw [if_pos h2]
      exact (if_neg (by omega)).symm
    · rw [if_neg h2]
      by_cases h3 : M < acc * 10 + (c.toNat - 48)
      · rw [if_pos h3]
        exact (if_neg (by omega)).symm
      · rw [if_neg h3]
        exact parseM M hM r _ hr (by omega)

theorem parse_dec (u : Nat) : parseUintB 64 (decDigits u) = if u ≤ 18446744073709551615 then .ok u else .range := by
  obtain ⟨h1, h2, h3, _⟩ := dec_facts u
  unfold parseUintB
  rw [if_neg h3, show 2 ^ 64 - 1 = 18446744073709551615 by decide, parseM _ (Nat.le_refl _) _ _ h1 (by decide)]
  show (if val (decDigits u) ≤ _ then NumEnd.ok (val (decDigits u)) else _) = _
  rw [h2]

theorem dec_head (u : Nat) : ∃ c r, decDigits u = c :: r ∧ 48 ≤ c.toNat ∧ c.toNat ≤ 57 := by
  obtain ⟨h1, _, h3, _⟩ := dec_facts u
  cases h : decDigits u with
  | nil => exact absurd h h3
  | cons c r => exact ⟨c, r, rfl, h1 c (by rw [h]; exact List.mem_cons_self ..)⟩

/-- ParseInt of a numeral. -/
theorem parse_itoa (z : Int) : parseIntB 64 (itoa z) = if -9223372036854775808 ≤ z ∧ z ≤ 9223372036854775807 then .ok z else .range := by
  by_cases hz : z < 0
  · have e : itoa z = 45 :: decDigits z.natAbs := by unfold itoa; rw [if_pos hz]
    have e45 : (45 : UInt8).toNat = 45 := by decide
    rw [e]
    simp only [parseIntB, e45, or_true, if_true, parse_dec, not_true, false_and, if_false, true_and]
    by_cases h : z.natAbs ≤ 18446744073709551615
    · simp only [h, if_true]
      by_cases h2 : 9223372036854775808 < z.natAbs
      · rw [if_pos (by simpa using h2), if_neg (by omega)]
      · rw [if_neg (by simpa using h2), if_pos (by omega)]
        congr 1; omega
    · simp only [h, if_false]
      rw [if_neg (by omega)]
  · have e : itoa z = decDigits z.toNat := by unfold itoa; rw [if_neg hz]
    obtain ⟨c, r, h1, h2, h3⟩ := dec_head z.toNat
    have hp := parse_dec z.toNat
    have e45 : ¬ c.toNat = 45 := by omega
    have e43 : ¬ c.toNat = 43 := by omega
    rw [e, h1]
    rw [h1] at hp
    simp only [parseIntB, e43, e45, or_self, if_false, hp, not_false_eq_true, true_and, false_and]
    by_cases h : z.toNat ≤ 18446744073709551615
    · simp only [h, if_true]
      by_cases h4 : 9223372036854775808 ≤ z.toNat
      · rw [if_pos (by simpa using h4), if_neg (by omega)]
      · rw [if_neg (by simpa using h4), if_pos (by omega)]
        congr 1; omega
    · simp only [h, if_false]
      rw [if_neg (by omega)]
end Go.Proofs.YtpigccnlembfdaaGreatDoor
