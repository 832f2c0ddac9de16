/- Decimal digits and their tables. Conditions: as each theorem states. -/
import Derived.Test.YtpigccnlembfdaaGreatDoorRows
import Derived.Lib.ItoaNum
import Derived.Lib.ItoaMem
import Derived.Lib.ParseIntB
import Derived.WalkKit
import Derived.WalkSpells
import Derived.WalkLawsBesides
import Derived.Lib.Hide
import Derived.IntWalk
import Derived.WalkSmall
import Derived.Laws.IdiomStrings
import Derived.Laws.NewBlocks
import Derived.Laws.Entries
import Derived.Lib.AppendStr
import Derived.StillTailTactics
import Derived.Deep.QuietTactic
import Derived.BigQuiet
import Derived.Laws.OwnMore
import Derived.Deep.OwnRows
import Derived.Deep.AppendLies
import Derived.Lib.ConvBytes
import Derived.Lib.AtoiErrMem

/- Decimal numerals: what digits spell, that a numeral without zeros in front is the numeral of what it spells, and what ParseInt makes of it. Plain Lean. Conditions: none. -/
namespace Go.Proofs.YtpigccnlembfdaaGreatDoor
open Go.Lib

/-- What digits spell. -/
def val (l : List UInt8) : Nat := l.foldl (fun n c => n * 10 + (c.toNat - 48)) 0
theorem val_snoc (l : List UInt8) (c : UInt8) : val (l ++ [c]) = val l * 10 + (c.toNat - 48) := by simp [val]
def Digs (l : List UInt8) : Prop := ∀ c ∈ l, 48 ≤ c.toNat ∧ c.toNat ≤ 57
theorem digs_snoc {l : List UInt8} {c : UInt8} (h : Digs (l ++ [c])) : Digs l ∧ 48 ≤ c.toNat ∧ c.toNat ≤ 57 :=
  ⟨fun x hx => h x (List.mem_append_left _ hx), h c (List.mem_append_right _ (List.mem_singleton.2 rfl))⟩
theorem u8_of (n : Nat) (h : n < 256) : (UInt8.ofNat n).toNat = n := by simp; omega

theorem dec_small {u : Nat} (h : u < 10) : decDigits u = [UInt8.ofNat (48 + u)] := by rw [decDigits, dif_pos h]
theorem dec_big {u : Nat} (h : ¬ u < 10) : decDigits u = decDigits (u / 10) ++ [UInt8.ofNat (48 + u % 10)] := by rw [decDigits, dif_neg h]

/-- What a numeral is. -/
theorem dec_facts (u : Nat) : Digs (decDigits u) ∧ val (decDigits u) = u ∧ decDigits u ≠ [] ∧ (u ≠ 0 → ∀ c, (decDigits u)[0]? = some c → c.toNat ≠ 48) := by
  induction u using Nat.strongRecOn with
  | _ u ih =>
    by_cases h : u < 10
    · rw [dec_small h]
      have hu := u8_of (48 + u) (by omega)
      refine ⟨fun c hc => ?_, ?_, by simp, fun h0 c hc => ?_⟩
      · rw [List.mem_singleton.1 hc, hu]; omega
      · show 0 * 10 + ((UInt8.ofNat (48 + u)).toNat - 48) = u
        rw [hu]; omega
      · simp only [List.getElem?_cons_zero, Option.some.injEq] at hc
        rw [← hc, hu]; omega
    · obtain ⟨i1, i2, i3, i4⟩ := ih (u / 10) (by omega)
      rw [dec_big h]
      have hu := u8_of (48 + u % 10) (by omega)
      refine ⟨fun c hc => ?_, ?_, by simp, fun _ c hc => ?_⟩
      · rcases List.mem_append.1 hc with hc | hc
        · exact i1 c hc
        · rw [List.mem_singleton.1 hc, hu]; omega
      · rw [val_snoc, i2, hu]; omega
      · rw [List.getElem?_append_left (List.length_pos_iff.2 i3)] at hc
        exact i4 (by omega) c hc

/-- A numeral without zeros in front is the numeral of what it spells. -/
theorem dec_unique : ∀ (n : Nat) (l : List UInt8), l.length = n → Digs l → l ≠ [] → (l = [48] ∨ ∀ c, l[0]? = some c → c.toNat ≠ 48) → l = decDigits (val l)
  | 0, l, hl, _, hne, _ => absurd (List.length_eq_zero_iff.1 hl) hne
  | n + 1, l, hl, hd, hne, hz => by
    have e := (List.dropLast_concat_getLast hne).symm
    generalize hdl : l.dropLast = d at e
    generalize hgl : l.getLast hne = c at e
    have hdlen : d.length = n := by rw [← hdl, List.length_dropLast]; omega
    rw [e] at hd hz ⊢
    obtain ⟨h1, h2, h3⟩ := digs_snoc hd
    rw [val_snoc]
    by_cases hdn : d = []
    · subst hdn
      have hv : val [] = 0 := rfl
      rw [hv, dec_small (by omega)]
      simp only [List.nil_append, List.cons.injEq, and_true]
      apply UInt8.toNat.inj
      rw [u8_of _ (by omega)]; omega
    · have hz' : ∀ x, d[0]? = some x → x.toNat ≠ 48 := by
        rcases hz with hz | hz
        · have := congrArg List.length hz
          simp at this
          exact absurd this hdn
        · intro x hx
          exact hz x (by rw [List.getElem?_append_left (List.length_pos_iff.2 hdn)]; exact hx)
      have ih := dec_unique n d hdlen h1 hdn (Or.inr hz')
      have hv : val d ≠ 0 := by
        intro h0
        rw [h0, dec_small (by decide)] at ih
        exact hz' 48 (by rw [ih]; rfl) rfl
      rw [dec_big (by omega), show (val d * 10 + (c.toNat - 48)) / 10 = val d by omega, show (val d * 10 + (c.toNat - 48)) % 10 = c.toNat - 48 by omega, ← ih]
      congr 1
      simp only [List.cons.injEq, and_true]
      apply UInt8.toNat.inj
      rw [u8_of _ (by omega)]; omega

theorem val_cons (acc : Nat) : ∀ (l : List UInt8), l.foldl (fun n c => n * 10 + (c.toNat - 48)) acc = acc * 10 ^ l.length + val l
  | [] => by simp [val]
  | c :: r => by
    have h1 := val_cons (acc * 10 + (c.toNat - 48)) r
    have h2 := val_cons (0 * 10 + (c.toNat - 48)) r
    show r.foldl _ (acc * 10 + (c.toNat - 48)) = _
    have e : val (c :: r) = r.foldl (fun n c => n * 10 + (c.toNat - 48)) (0 * 10 + (c.toNat - 48)) := rfl
    rw [h1, e, h2, List.length_cons, Nat.pow_succ]
    rw [Nat.add_mul, Nat.zero_mul, Nat.zero_add, Nat.mul_assoc, Nat.mul_comm 10, Nat.add_assoc]

/-- ParseUint's loop over digits. -/
theorem parseM (M : Nat) (hM : M ≤ 18446744073709551615) : ∀ (l : List UInt8) (acc : Nat), Digs l → acc ≤ M → parseUintM M acc l = if l.foldl (fun n c => n * 10 + (c.toNat - 48)) acc ≤ M then .ok (l.foldl (fun n c => n * 10 + (c.toNat - 48)) acc) else .range
  | [], acc, _, ha => by simp [parseUintM, ha]
  | c :: r, acc, hd, _ => by
    have hc := hd c (List.mem_cons_self ..)
    have hr : Digs r := fun x hx => hd x (List.mem_cons_of_mem _ hx)
    have hge : ∀ (l : List UInt8) (a : Nat), a ≤ l.foldl (fun n c => n * 10 + (c.toNat - 48)) a := fun l => by
      induction l with
      | nil => intro a; exact Nat.le_refl _
      | cons x l ih => intro a; exact Nat.le_trans (by omega) (ih (a * 10 + (x.toNat - 48)))
    have h1 := hge r (acc * 10 + (c.toNat - 48))
    simp only [parseUintM, List.foldl_cons]
    rw [if_pos hc]
    by_cases h2 : 1844674407370955162 ≤ acc
    · rw [if_pos h2]
      exact (if_neg (by omega)).symm
    · rw [if_neg h2]
      by_cases h3 : M < acc * 10 + (c.toNat - 48)
      · rw [if_pos h3]
        exact (if_neg (by omega)).symm
      · rw [if_neg h3]
        exact parseM M hM r _ hr (by omega)

theorem parse_dec (u : Nat) : parseUintB 64 (decDigits u) = if u ≤ 18446744073709551615 then .ok u else .range := by
  obtain ⟨h1, h2, h3, _⟩ := dec_facts u
  unfold parseUintB
  rw [if_neg h3, show 2 ^ 64 - 1 = 18446744073709551615 by decide, parseM _ (Nat.le_refl _) _ _ h1 (by decide)]
  show (if val (decDigits u) ≤ _ then NumEnd.ok (val (decDigits u)) else _) = _
  rw [h2]

theorem dec_head (u : Nat) : ∃ c r, decDigits u = c :: r ∧ 48 ≤ c.toNat ∧ c.toNat ≤ 57 := by
  obtain ⟨h1, _, h3, _⟩ := dec_facts u
  cases h : decDigits u with
  | nil => exact absurd h h3
  | cons c r => exact ⟨c, r, rfl, h1 c (by rw [h]; exact List.mem_cons_self ..)⟩

/-- ParseInt of a numeral. -/
theorem parse_itoa (z : Int) : parseIntB 64 (itoa z) = if -9223372036854775808 ≤ z ∧ z ≤ 9223372036854775807 then .ok z else .range := by
  by_cases hz : z < 0
  · have e : itoa z = 45 :: decDigits z.natAbs := by unfold itoa; rw [if_pos hz]
    have e45 : (45 : UInt8).toNat = 45 := by decide
    rw [e]
    simp only [parseIntB, e45, or_true, if_true, parse_dec, not_true, false_and, if_false, true_and]
    by_cases h : z.natAbs ≤ 18446744073709551615
    · simp only [h, if_true]
      by_cases h2 : 9223372036854775808 < z.natAbs
      · rw [if_pos (by simpa using h2), if_neg (by omega)]
      · rw [if_neg (by simpa using h2), if_pos (by omega)]
        congr 1; omega
    · simp only [h, if_false]
      rw [if_neg (by omega)]
  · have e : itoa z = decDigits z.toNat := by unfold itoa; rw [if_neg hz]
    obtain ⟨c, r, h1, h2, h3⟩ := dec_head z.toNat
    have hp := parse_dec z.toNat
    have e45 : ¬ c.toNat = 45 := by omega
    have e43 : ¬ c.toNat = 43 := by omega
    rw [e, h1]
    rw [h1] at hp
    simp only [parseIntB, e43, e45, or_self, if_false, hp, not_false_eq_true, true_and, false_and]
    by_cases h : z.toNat ≤ 18446744073709551615
    · simp only [h, if_true]
      by_cases h4 : 9223372036854775808 ≤ z.toNat
      · rw [if_pos (by simpa using h4), if_neg (by omega)]
      · rw [if_neg (by simpa using h4), if_pos (by omega)]
        congr 1; omega
    · simp only [h, if_false]
      rw [if_neg (by omega)]
end Go.Proofs.YtpigccnlembfdaaGreatDoor

/- Decimals, that is digits and the place of a point: what they are worth, long division by a power of two, and the decimal of a half between its neighbours. Plain Lean. Conditions: as each theorem states. -/
namespace Go.Proofs.YtpigccnlembfdaaGreatDoor
open Go.Lib

/-- What a row of digits spells, the first ahead. -/
def num (l : List Nat) : Nat := l.foldl (fun n d => n * 10 + d) 0
theorem num_snoc (l : List Nat) (d : Nat) : num (l ++ [d]) = num l * 10 + d := by simp [num]
theorem num_acc : ∀ (l : List Nat) (acc : Nat), l.foldl (fun n d => n * 10 + d) acc = acc * 10 ^ l.length + num l
  | [], acc => by simp [num]
  | c :: r, acc => by
    have h1 := num_acc r (acc * 10 + c)
    have h2 := num_acc r (0 * 10 + c)
    have e : num (c :: r) = r.foldl (fun n d => n * 10 + d) (0 * 10 + c) := rfl
    rw [List.foldl_cons, h1, e, h2, List.length_cons, Nat.pow_succ, Nat.add_mul, Nat.zero_mul, Nat.zero_add, Nat.mul_assoc, Nat.mul_comm 10, Nat.add_assoc]
theorem num_append (a b : List Nat) : num (a ++ b) = num a * 10 ^ b.length + num b := by
  have : num (a ++ b) = b.foldl (fun n d => n * 10 + d) (num a) := by simp [num]
  rw [this, num_acc]
def Ten (l : List Nat) : Prop := ∀ d ∈ l, d < 10
theorem num_cons (c : Nat) (r : List Nat) : num (c :: r) = c * 10 ^ r.length + num r := by
  have := num_append [c] r
  simpa [num] using this
theorem num_lt : ∀ (l : List Nat), Ten l → num l < 10 ^ l.length
  | [], _ => by simp [num]
  | c :: r, h => by
    have ih := num_lt r (fun d hd => h d (List.mem_cons_of_mem _ hd))
    have hc := h c (List.mem_cons_self ..)
    rw [num_cons, List.length_cons, Nat.pow_succ]
    have : c * 10 ^ r.length ≤ 9 * 10 ^ r.length := Nat.mul_le_mul_right _ (by omega)
    omega
/-- The first digit is none of 0. -/
def Headed (l : List Nat) : Prop := ∀ d, l[0]? = some d → d ≠ 0
def Lasted (l : List Nat) : Prop := ∀ d, l.getLast? = some d → d ≠ 0
theorem num_ge {l : List Nat} (h : Headed l) (hne : l ≠ []) : 10 ^ (l.length - 1) ≤ num l := by
  cases l with
  | nil => exact absurd rfl hne
  | cons c r =>
    have hc : c ≠ 0 := h c rfl
    rw [num_cons, List.length_cons, Nat.add_sub_cancel]
    have : 1 * 10 ^ r.length ≤ c * 10 ^ r.length := Nat.mul_le_mul_right _ (by omega)
    omega
def dByte (d : Nat) : UInt8 := UInt8.ofNat (48 + d)
theorem dByte_nat {d : Nat} (h : d < 10) : (dByte d).toNat = 48 + d := u8_of _ (by omega)
theorem val_map (l : List Nat) (h : Ten l) : val (l.map dByte) = num l := by
  have : ∀ (l : List Nat) (acc : Nat), Ten l → (l.map dByte).foldl (fun n c => n * 10 + (c.toNat - 48)) acc = l.foldl (fun n d => n * 10 + d) acc := fun l => by
    induction l with
    | nil => intro acc _; rfl
    | cons c r ih =>
      intro acc h
      have hc := dByte_nat (h c (List.mem_cons_self ..))
      simp only [List.map_cons, List.foldl_cons]
      rw [hc, Nat.add_sub_cancel_left]
      exact ih _ (fun d hd => h d (List.mem_cons_of_mem _ hd))
  exact this l 0 h
/-- Digits without a zero in front are the digits of what they spell. -/
theorem digs_of {l : List Nat} (ht : Ten l) (hh : Headed l) (hne : l ≠ []) : l.map dByte = decDigits (num l) := by
  rw [← val_map l ht]
  refine dec_unique _ _ rfl (fun c hc => ?_) (by simpa using hne) (Or.inr fun c hc => ?_)
  · obtain ⟨d, hd, rfl⟩ := List.mem_map.1 hc
    rw [dByte_nat (ht d hd)]
    have := ht d hd
    omega
  · rw [List.getElem?_map] at hc
    cases h0 : l[0]? with
    | none => rw [h0] at hc; cases hc
    | some d =>
      rw [h0] at hc
      cases hc
      have h1 := ht d (List.mem_of_getElem? h0)
      rw [dByte_nat h1]
      have := hh d h0
      omega
theorem map_inj : ∀ {a b : List Nat}, Ten a → Ten b → a.map dByte = b.map dByte → a = b
  | [], [], _, _, _ => rfl
  | [], _ :: _, _, _, h => by simp at h
  | _ :: _, [], _, _, h => by simp at h
  | x :: a, y :: b, ha, hb, h => by
    simp only [List.map_cons, List.cons.injEq] at h
    have e := congrArg UInt8.toNat h.1
    rw [dByte_nat (ha x (List.mem_cons_self ..)), dByte_nat (hb y (List.mem_cons_self ..))] at e
    rw [show x = y by omega, map_inj (fun d hd => ha d (List.mem_cons_of_mem _ hd)) (fun d hd => hb d (List.mem_cons_of_mem _ hd)) h.2]
/-- The digits of a number, none of 0. -/
def digN (n : Nat) : List Nat := if n = 0 then [] else (decDigits n).map fun c => c.toNat - 48
theorem digN_zero : digN 0 = [] := rfl
theorem digN_map {n : Nat} (h : n ≠ 0) : (digN n).map dByte = decDigits n := by
  unfold digN
  rw [if_neg h, List.map_map]
  have h1 := (dec_facts n).1
  have : ∀ l : List UInt8, Digs l → l.map (dByte ∘ fun c => c.toNat - 48) = l := fun l => by
    induction l with
    | nil => intro _; rfl
    | cons c r ih =>
      intro hd
      have hc := hd c (List.mem_cons_self ..)
      rw [List.map_cons, ih (fun x hx => hd x (List.mem_cons_of_mem _ hx))]
      congr 1
      apply UInt8.toNat.inj
      show (UInt8.ofNat (48 + (c.toNat - 48))).toNat = _
      rw [u8_of _ (by omega)]; omega
  exact this _ h1
theorem digN_ten (n : Nat) : Ten (digN n) := by
  intro d hd
  unfold digN at hd
  split at hd
  · cases hd
  · obtain ⟨c, hc, rfl⟩ := List.mem_map.1 hd
    have := (dec_facts n).1 c hc
    omega
theorem digN_headed (n : Nat) : Headed (digN n) := by
  intro d hd
  unfold digN at hd
  split at hd
  · simp at hd
  · rename_i h
    rw [List.getElem?_map] at hd
    cases h0 : (decDigits n)[0]? with
    | none => rw [h0] at hd; cases hd
    | some c =>
      rw [h0] at hd
      cases hd
      have h1 := (dec_facts n).2.2.2 h c h0
      have h2 := (dec_facts n).1 c (List.mem_of_getElem? h0)
      show c.toNat - 48 ≠ 0
      omega
theorem digN_num (n : Nat) : num (digN n) = n := by
  by_cases h : n = 0
  · subst h; rfl
  · rw [← val_map _ (digN_ten n), digN_map h]; exact (dec_facts n).2.1
theorem digN_ne {n : Nat} (h : n ≠ 0) : digN n ≠ [] := by
  intro e
  have := digN_num n
  rw [e] at this
  exact h this.symm
/-- Digits without a zero in front. -/
theorem digN_of {l : List Nat} (ht : Ten l) (hh : Headed l) : l = digN (num l) := by
  by_cases hne : l = []
  · subst hne; rfl
  · have h1 := digs_of ht hh hne
    have h0 : num l ≠ 0 := by
      have := num_ge hh hne
      have : 0 < 10 ^ (l.length - 1) := Nat.pow_pos (by decide)
      omega
    rw [← digN_map h0] at h1
    exact map_inj ht (digN_ten _) h1

/-- Digits and a point are worth A / B. -/
def DecV (ds : List Nat) (dp : Int) (A B : Nat) : Prop := ∃ p q : Nat, num ds * 10 ^ p * B = A * 10 ^ q ∧ dp - ds.length = (p : Int) - q
theorem DecV.whole (M : Nat) : DecV (digN M) (digN M).length M 1 := ⟨0, 0, by rw [digN_num]; omega, by omega⟩
/-- A zero at the end falls away. -/
theorem DecV.trim {ds : List Nat} {dp : Int} {A B : Nat} (h : DecV (ds ++ [0]) dp A B) : DecV ds dp A B := by
  obtain ⟨p, q, h1, h2⟩ := h
  refine ⟨p + 1, q, ?_, by simp at h2; omega⟩
  rw [num_snoc] at h1
  rw [← h1, Nat.pow_succ, Nat.add_zero]
  congr 1
  rw [Nat.mul_assoc, Nat.mul_comm 10 (10 ^ p)]
theorem DecV.times {ds : List Nat} {dp : Int} {A B : Nat} (c : Nat) (hc : 0 < c) (h : DecV ds dp (A * c) (B * c)) : DecV ds dp A B := by
  obtain ⟨p, q, h1, h2⟩ := h
  refine ⟨p, q, ?_, h2⟩
  apply Nat.eq_of_mul_eq_mul_right hc
  rw [Nat.mul_assoc, h1]
  rw [Nat.mul_assoc, Nat.mul_comm c, ← Nat.mul_assoc]

/-- The first i digits, zeros behind the last. -/
def pn (ds : List Nat) (i : Nat) : Nat := num (ds.take i) * 10 ^ (i - ds.length)
theorem pn_zero (ds : List Nat) : pn ds 0 = 0 := by simp [pn, num]
theorem pn_succ (ds : List Nat) (i : Nat) : pn ds (i + 1) = pn ds i * 10 + ds.getD i 0 := by
  unfold pn
  by_cases h : i < ds.length
  · rw [show i + 1 - ds.length = 0 by omega, show i - ds.length = 0 by omega, List.take_add_one, List.getElem?_eq_getElem h]
    simp only [Option.toList_some, num_snoc, Nat.pow_zero, Nat.mul_one]
    rw [List.getD_eq_getElem?_getD, List.getElem?_eq_getElem h]; rfl
  · rw [List.take_of_length_le (by omega), List.take_of_length_le (by omega), show i + 1 - ds.length = (i - ds.length) + 1 by omega, Nat.pow_succ, ← Nat.mul_assoc]
    rw [List.getD_eq_getElem?_getD, List.getElem?_eq_none (by omega)]; rfl
theorem pn_end {ds : List Nat} {i : Nat} (h : ds.length ≤ i) : pn ds i = num ds * 10 ^ (i - ds.length) := by
  unfold pn; rw [List.take_of_length_le h]
theorem pn_pos {ds : List Nat} (hh : Headed ds) (hne : ds ≠ []) {i : Nat} (h : 1 ≤ i) : 10 ^ (i - 1) ≤ pn ds i := by
  unfold pn
  have hl : 0 < ds.length := List.length_pos_iff.2 hne
  have h1 : Headed (ds.take i) := fun d hd => hh d (by rwa [List.getElem?_take_of_lt (by omega)] at hd)
  have h2 := num_ge h1 (by intro e; have := congrArg List.length e; rw [List.length_take, List.length_nil] at this; omega)
  rw [List.length_take] at h2
  by_cases hi : i ≤ ds.length
  · rw [show i - ds.length = 0 by omega, Nat.pow_zero, Nat.mul_one]
    rwa [show min i ds.length = i by omega] at h2
  · rw [show min i ds.length = ds.length by omega] at h2
    rw [show i - 1 = (ds.length - 1) + (i - ds.length) by omega, Nat.pow_add]
    exact Nat.mul_le_mul_right _ h2

/-- What holds at each step of a long division by 2 to the power k. -/
structure Hv (ds : List Nat) (k i0 i n : Nat) (O : List Nat) : Prop where
  eq : pn ds i = num O * 10 * 2 ^ k + n
  lt : n < 10 * 2 ^ k
  ten : Ten O
  at_ : i = i0 + O.length
  first : O = [] → 2 ^ k ≤ n
  headed : Headed O
  even : ds.length ≤ i → 2 ^ (i - ds.length) ∣ n
theorem Hv.step {ds : List Nat} {k i0 i n : Nat} {O : List Nat} (h : Hv ds k i0 i n O) (ht : Ten ds) : Hv ds k i0 (i + 1) ((n % 2 ^ k) * 10 + ds.getD i 0) (O ++ [n / 2 ^ k]) := by
  have hp : 0 < 2 ^ k := Nat.pow_pos (by decide)
  have hdm := Nat.div_add_mod n (2 ^ k)
  have hml := Nat.mod_lt n hp
  have hx : ds.getD i 0 < 10 := by
    rw [List.getD_eq_getElem?_getD]
    cases hg : ds[i]? with
    | none => exact (by decide : 0 < 10)
    | some d => exact ht d (List.mem_of_getElem? hg)
  have hq : n / 2 ^ k < 10 := Nat.div_lt_of_lt_mul (by rw [Nat.mul_comm]; exact h.lt)
  refine ⟨?_, by omega, ?_, by rw [List.length_append, ← Nat.add_assoc, ← h.at_]; rfl, by simp, ?_, ?_⟩
  · rw [pn_succ, h.eq, num_snoc]
    generalize n / 2 ^ k = q at *
    generalize n % 2 ^ k = r at *
    rw [← hdm]
    generalize num O = P
    generalize 2 ^ k = z at *
    have e1 : (P * 10 + q) * 10 * z = P * 10 * z * 10 + z * q * 10 := by
      rw [Nat.add_mul, Nat.add_mul, Nat.mul_right_comm (P * 10) 10 z]
      congr 1
      rw [Nat.mul_right_comm, Nat.mul_comm q z]
    rw [e1]; omega
  · intro d hd
    rcases List.mem_append.1 hd with hd | hd
    · exact h.ten d hd
    · rw [List.mem_singleton.1 hd]; exact hq
  · intro d hd
    by_cases hO : O = []
    · have h1 := h.first hO
      subst hO
      simp at hd
      rw [← hd]
      have : 1 ≤ n / 2 ^ k := (Nat.le_div_iff_mul_le hp).2 (by omega)
      omega
    · exact h.headed d (by rwa [List.getElem?_append_left (List.length_pos_iff.2 hO)] at hd)
  · intro hl
    by_cases hi : ds.length ≤ i
    · have h1 := h.even hi
      have h2 : ds.getD i 0 = 0 := by rw [List.getD_eq_getElem?_getD, List.getElem?_eq_none hi]; rfl
      rw [h2, Nat.add_zero, show i + 1 - ds.length = (i - ds.length) + 1 by omega, Nat.pow_succ]
      have h3 : 2 ^ (i - ds.length) ∣ n % 2 ^ k := by
        by_cases hk : i - ds.length ≤ k
        · exact (Nat.dvd_mod_iff (Nat.pow_dvd_pow 2 hk)).2 h1
        · have : 2 ^ k ∣ n := Nat.dvd_trans (Nat.pow_dvd_pow 2 (by omega)) h1
          rw [Nat.mod_eq_zero_of_dvd this]; exact Nat.dvd_zero _
      exact Nat.mul_dvd_mul h3 (by decide)
    · rw [show i + 1 - ds.length = 0 by omega]; exact Nat.one_dvd _
/-- There is an end. -/
theorem Hv.bound {ds : List Nat} {k i0 i n : Nat} {O : List Nat} (h : Hv ds k i0 i n O) (hn : i < ds.length ∨ 0 < n) : i < ds.length + k + 4 := by
  rcases hn with hn | hn
  · omega
  · by_cases hi : ds.length ≤ i
    · have h1 := Nat.le_of_dvd hn (h.even hi)
      have h2 := h.lt
      have h3 : 2 ^ (i - ds.length) < 2 ^ (k + 4) := by
        rw [Nat.pow_add]
        have : 0 < 2 ^ k := Nat.pow_pos (by decide)
        omega
      have := (Nat.pow_lt_pow_iff_right (by decide : 1 < 2)).1 h3
      omega
    · omega
theorem Hv.done {ds : List Nat} {k i0 i n : Nat} {O : List Nat} {dp : Int} {A B : Nat} (h : Hv ds k i0 i n O) (hi : ds.length ≤ i) (hn : n = 0) (hv : DecV ds dp A B) : DecV O (dp - ((i0 : Int) - 1)) A (B * 2 ^ k) := by
  obtain ⟨p, q, h1, h2⟩ := hv
  have h3 := h.eq
  have h4 := h.at_
  rw [pn_end hi, hn, Nat.add_zero] at h3
  refine ⟨p + 1, q + (i - ds.length), ?_, by omega⟩
  rw [Nat.pow_add 10 q, ← Nat.mul_assoc A, ← h1, Nat.pow_succ]
  generalize num O = P at *
  generalize num ds = D at *
  generalize 10 ^ (i - ds.length) = T at *
  generalize 2 ^ k = z at *
  generalize 10 ^ p = Q at *
  calc P * (Q * 10) * (B * z) = P * 10 * z * (Q * B) := by ac_rfl
    _ = D * T * (Q * B) := by rw [h3]
    _ = D * Q * B * T := by ac_rfl
/-- The start of a long division: as many digits as make the first one. -/
theorem Hv.start {ds : List Nat} {k i : Nat} (ht : Ten ds) (hlt : pn ds i < 2 ^ k) (hge : 2 ^ k ≤ pn ds (i + 1)) : Hv ds k (i + 1) (i + 1) (pn ds (i + 1)) [] := by
  have hx : ds.getD i 0 < 10 := by
    rw [List.getD_eq_getElem?_getD]
    cases hg : ds[i]? with
    | none => exact (by decide : 0 < 10)
    | some d => exact ht d (List.mem_of_getElem? hg)
  refine ⟨by simp [num], by rw [pn_succ]; omega, fun d hd => (by cases hd), by simp, fun _ => hge, fun d hd => by simp at hd, fun hl => ?_⟩
  rw [pn_end hl]
  refine Nat.dvd_trans ?_ (Nat.dvd_mul_left _ _)
  rw [show 10 = 2 * 5 by decide, Nat.mul_pow]
  exact Nat.dvd_mul_right _ _

/-- Without a zero at either end. -/
structure Dm (ds : List Nat) (dp : Int) (A B : Nat) : Prop where
  ten : Ten ds
  headed : Headed ds
  lasted : Lasted ds
  ne : ds ≠ []
  dec : DecV ds dp A B

theorem pow_pos10 (n : Nat) : 0 < 10 ^ n := Nat.pow_pos (by decide)
/-- Between N and N + 1: the digits of N come first, and something behind them. -/
theorem Dm.part {ds : List Nat} {dp : Int} {A B N : Nat} (h : Dm ds dp A B) (h1 : N * B < A) (h2 : A < (N + 1) * B) (hN : N ≠ 0) : ∃ rest, ds = digN N ++ rest ∧ dp = (digN N).length ∧ num rest ≠ 0 := by
  obtain ⟨p, q, e1, e2⟩ := h.dec
  have hB : 0 < B := by
    rcases Nat.eq_zero_or_pos B with h0 | h0
    · rw [h0] at h2; omega
    · exact h0
  have l1 : N * 10 ^ q < num ds * 10 ^ p := by
    apply Nat.lt_of_mul_lt_mul_right (a := B)
    rw [e1]
    calc N * 10 ^ q * B = N * B * 10 ^ q := by ac_rfl
      _ < A * 10 ^ q := Nat.mul_lt_mul_of_pos_right h1 (pow_pos10 q)
  have l2 : num ds * 10 ^ p < (N + 1) * 10 ^ q := by
    apply Nat.lt_of_mul_lt_mul_right (a := B)
    rw [e1]
    calc A * 10 ^ q < (N + 1) * B * 10 ^ q := Nat.mul_lt_mul_of_pos_right h2 (pow_pos10 q)
      _ = (N + 1) * 10 ^ q * B := by ac_rfl
  have hqp : p < q := by
    refine Nat.lt_of_not_le fun hle => ?_
    obtain ⟨e, rfl⟩ : ∃ e, p = q + e := ⟨p - q, by omega⟩
    rw [Nat.pow_add, Nat.mul_comm (10 ^ q), ← Nat.mul_assoc] at l1 l2
    have a1 := Nat.lt_of_mul_lt_mul_right l1
    have a2 := Nat.lt_of_mul_lt_mul_right l2
    omega
  obtain ⟨f, rfl⟩ : ∃ f, q = p + f := ⟨q - p, by omega⟩
  rw [Nat.pow_add, Nat.mul_comm (10 ^ p), ← Nat.mul_assoc] at l1 l2
  have m1 := Nat.lt_of_mul_lt_mul_right l1
  have m2 := Nat.lt_of_mul_lt_mul_right l2
  have hlt := num_lt ds h.ten
  have hf : f < ds.length := by
    have : 10 ^ f < 10 ^ ds.length := by
      have : 1 * 10 ^ f ≤ N * 10 ^ f := Nat.mul_le_mul_right _ (by omega)
      omega
    exact (Nat.pow_lt_pow_iff_right (by decide : 1 < 10)).1 this
  have hsplit := num_append (ds.take (ds.length - f)) (ds.drop (ds.length - f))
  rw [List.take_append_drop, List.length_drop, show ds.length - (ds.length - f) = f by omega] at hsplit
  have htd : Ten (ds.drop (ds.length - f)) := fun d hd => h.ten d (List.mem_of_mem_drop hd)
  have htt : Ten (ds.take (ds.length - f)) := fun d hd => h.ten d (List.mem_of_mem_take hd)
  have hb := num_lt _ htd
  rw [List.length_drop, show ds.length - (ds.length - f) = f by omega] at hb
  have hh : Headed (ds.take (ds.length - f)) := fun d hd => h.headed d (by rwa [List.getElem?_take_of_lt (by omega)] at hd)
  have hdig := digN_of htt hh
  generalize num (ds.drop (ds.length - f)) = b at *
  have hNa : num (ds.take (ds.length - f)) = N := by
    generalize num (ds.take (ds.length - f)) = a at *
    rw [hsplit] at m1 m2
    have c1 : a < N + 1 := by
      refine Nat.lt_of_not_le fun hle => ?_
      have := Nat.mul_le_mul_right (10 ^ f) hle
      omega
    have c2 : N < a + 1 := by
      refine Nat.lt_of_not_le fun hle => ?_
      have := Nat.mul_le_mul_right (10 ^ f) hle
      rw [Nat.add_mul] at this
      omega
    omega
  rw [hNa] at hdig hsplit
  refine ⟨ds.drop (ds.length - f), ?_, ?_, ?_⟩
  · rw [← hdig, List.take_append_drop]
  · rw [← hdig, List.length_take]; omega
  · have e : num (ds.drop (ds.length - f)) = num ds - N * 10 ^ f := by
      have := num_append (ds.take (ds.length - f)) (ds.drop (ds.length - f))
      rw [List.take_append_drop, List.length_drop, show ds.length - (ds.length - f) = f by omega, hNa] at this
      omega
    rw [e]; omega
/-- Between 0 and 1: no digit before the point. -/
theorem Dm.small {ds : List Nat} {dp : Int} {A B : Nat} (h : Dm ds dp A B) (h2 : A < B) : dp ≤ 0 := by
  obtain ⟨p, q, e1, e2⟩ := h.dec
  have l2 : num ds * 10 ^ p < 10 ^ q := by
    apply Nat.lt_of_mul_lt_mul_right (a := B)
    rw [e1, Nat.mul_comm (10 ^ q)]
    exact Nat.mul_lt_mul_of_pos_right h2 (pow_pos10 q)
  have hge := num_ge h.headed h.ne
  have hl : 0 < ds.length := List.length_pos_iff.2 h.ne
  have : 10 ^ (ds.length - 1 + p) < 10 ^ q := by
    rw [Nat.pow_add]
    exact Nat.lt_of_le_of_lt (Nat.mul_le_mul_right _ hge) l2
  have := (Nat.pow_lt_pow_iff_right (by decide : 1 < 10)).1 this
  omega
theorem lasted_mod {ds : List Nat} (ht : Ten ds) (hl : Lasted ds) (hne : ds ≠ []) : num ds % 10 ≠ 0 := by
  have e := (List.dropLast_concat_getLast hne).symm
  have h1 := hl _ (List.getLast?_eq_some_getLast hne)
  have h2 := ht _ (List.getLast_mem hne)
  rw [e, num_snoc]
  omega
/-- The decimal of a half. -/
theorem Dm.half {ds : List Nat} {dp : Int} {N : Nat} (h : Dm ds dp (2 * N + 1) 2) : ds = digN N ++ [5] ∧ dp = (digN N).length := by
  obtain ⟨p, q, e1, e2⟩ := h.dec
  have hm := lasted_mod h.ten h.lasted h.ne
  have e3 : num ds * 10 ^ (p + 1) = (10 * N + 5) * 10 ^ q := by
    rw [Nat.pow_succ]
    have : num ds * 10 ^ p * 2 * 5 = (2 * N + 1) * 10 ^ q * 5 := by rw [e1]
    calc num ds * (10 ^ p * 10) = num ds * 10 ^ p * 2 * 5 := by rw [← Nat.mul_assoc, Nat.mul_assoc _ 2 5]
      _ = (2 * N + 1) * 10 ^ q * 5 := this
      _ = (2 * N + 1) * 5 * 10 ^ q := by ac_rfl
      _ = (10 * N + 5) * 10 ^ q := by congr 1; omega
  have hq : p + 1 = q := by
    rcases Nat.lt_trichotomy (p + 1) q with hlt | heq | hgt
    · exfalso
      obtain ⟨c, rfl⟩ : ∃ c, q = (p + 1) + (c + 1) := ⟨q - (p + 2), by omega⟩
      rw [Nat.pow_add 10 (p + 1) (c + 1), Nat.mul_comm (10 ^ (p + 1)), ← Nat.mul_assoc] at e3
      have e4 := Nat.eq_of_mul_eq_mul_right (pow_pos10 _) e3
      rw [Nat.pow_succ, ← Nat.mul_assoc] at e4
      omega
    · exact heq
    · exfalso
      obtain ⟨c, hc⟩ : ∃ c, p + 1 = q + (c + 1) := ⟨p - q, by omega⟩
      rw [hc, Nat.pow_add 10 q (c + 1), Nat.mul_comm (10 ^ q), ← Nat.mul_assoc] at e3
      have e4 := Nat.eq_of_mul_eq_mul_right (pow_pos10 _) e3
      rw [Nat.pow_succ, ← Nat.mul_assoc] at e4
      omega
  rw [hq] at e3
  have e5 := Nat.eq_of_mul_eq_mul_right (pow_pos10 _) e3
  have e6 : ds = digN N ++ [5] := by
    rw [digN_of h.ten h.headed, e5]
    refine (map_inj (digN_ten _) ?_ ?_)
    · intro d hd
      rcases List.mem_append.1 hd with hd | hd
      · exact digN_ten N d hd
      · rw [List.mem_singleton.1 hd]; decide
    · rw [digN_map (by omega), List.map_append]
      by_cases hN : N = 0
      · subst hN
        rw [dec_small (by decide)]; rfl
      · rw [dec_big (by omega), show (10 * N + 5) / 10 = N by omega, show (10 * N + 5) % 10 = 5 by omega, digN_map hN]; rfl
  refine ⟨e6, ?_⟩
  have := congrArg List.length e6
  rw [List.length_append] at this
  simp only [List.length_cons, List.length_nil] at this
  omega
end Go.Proofs.YtpigccnlembfdaaGreatDoor

/- The walks of lightstrconv's FormatUint and FormatInt at base 10. Conditions: as each theorem states. -/
namespace Go.Proofs.YtpigccnlembfdaaGreatDoor
open Go.RowKit

/-- The string of a list. -/
def strL (l : List UInt8) : ByteArray := ⟨l.toArray⟩
theorem strL_list (l : List UInt8) : (strL l).data.toList = l := by simp [strL]
theorem strL_size (l : List UInt8) : (strL l).size = l.length := by simp [strL, ByteArray.size]
/-- What a text leaves. -/
def TextIs (l : List UInt8) (w : World) (e : Ending) (w' : World) : Prop := e = .returned (.string (strL l)) ∧ Below w.heap.size w w'
/-- The digits that are still to be written, and those that are. -/
def DigRest (n m : Nat) (sfx : List UInt8) : Prop := (sfx = [] ∧ m = n) ∨ (sfx ≠ [] ∧ (if m = 0 then sfx else Lib.decDigits m ++ sfx) = Lib.decDigits n)
theorem DigRest.step {n m : Nat} {sfx : List UInt8} (h : DigRest n m sfx) (hm : sfx = [] ∨ m ≠ 0) : DigRest n (m / 10) (UInt8.ofNat (48 + m % 10) :: sfx) := by
  refine Or.inr ⟨by simp, ?_⟩
  rcases h with ⟨rfl, rfl⟩ | ⟨hne, h⟩
  · by_cases h10 : m < 10
    · rw [if_pos (by omega), dec_small h10, show m % 10 = m by omega]
    · rw [if_neg (by omega), dec_big h10]
  · have hm0 : m ≠ 0 := by rcases hm with h1 | h1; exact absurd h1 hne; exact h1
    rw [if_neg hm0] at h
    by_cases h10 : m < 10
    · rw [if_pos (by omega), show m % 10 = m by omega, ← h, dec_small h10]; rfl
    · rw [if_neg (by omega), ← h, dec_big h10]; simp
theorem DigRest.len {n m : Nat} {sfx : List UInt8} (h : DigRest n m sfx) : sfx.length ≤ (Lib.decDigits n).length := by
  rcases h with ⟨rfl, rfl⟩ | ⟨hne, h⟩
  · exact Nat.zero_le _
  · rw [← h]; split <;> simp
theorem DigRest.more {n m : Nat} {sfx : List UInt8} (h : DigRest n m sfx) (hm : sfx = [] ∨ m ≠ 0) : sfx.length < (Lib.decDigits n).length := by
  have := (h.step hm).len
  rw [List.length_cons] at this
  omega
theorem DigRest.done {n : Nat} {sfx : List UInt8} (h : DigRest n 0 sfx) (hne : sfx ≠ []) : sfx = Lib.decDigits n := by
  rcases h with ⟨h, _⟩ | ⟨_, h⟩
  · exact absurd h hne
  · rw [if_pos rfl] at h; exact h
theorem dec_length (k : Nat) : ∀ (n : Nat), n < 10 ^ (k + 1) → (Lib.decDigits n).length ≤ k + 1 := by
  induction k with
  | zero => intro n h; rw [dec_small (by simpa using h)]; simp
  | succ k ih =>
    intro n h
    by_cases h10 : n < 10
    · rw [dec_small h10]; simp
    · rw [dec_big h10, List.length_append, List.length_singleton]
      have := ih (n / 10) (by rw [Nat.pow_succ] at h; omega)
      omega
def encBy (l : List UInt8) : List Value := l.map fun b => Value.int .u8 b.toNat
/-- An index into a written string. -/
theorem wp_index_const {P : Program} {o : Oper} {a : Act} {W : World} {K : Act → World → Prop} {Q : Exit → Act → World → Prop} (S : ByteArray) (x : Operand) (t : TypeId) (i v : Nat) (k : IntKind) (ho : o.op = .index t (.const (.string S)) x) (ht : P.underlying t = some .string)
    (iv : Int) (hx : a.eval x = .int k iv) (hiv : iv = (i : Int)) (hlt : i < S.size) (hv : ∀ h : i < S.size, (S[i]'h).toNat = v) (h : K (a.put o.dst (.int .u8 (v : Int))) W) : o.wp P a W K Q := by
  subst hiv
  have hr := run_index_string (P := P) W t S k (i : Int) ht
  rw [dif_pos ⟨by omega, by omega⟩] at hr
  have hv' := hv hlt
  unfold Oper.wp execOp
  rw [ho]
  simp only [Act.eval] at hx ⊢
  rw [hx, Sem.run_bind, hr]
  simp only [Int.toNat_natCast] at hv' ⊢
  rw [hv']
  exact h
theorem forget_ops {P : Program} {ops : Array Oper} {Q : Exit → Act → World → Prop} {r : List Oper} {a : Act} {w : World} (h : ∀ o, wpList P o Q r a w) : wpList P ops Q r a w := h ops
/-- The array of digits, filled from i on. -/
def ArrU (w : World) (g i : Nat) (sfx : List UInt8) : Prop := ∃ cs : Array Value, w.heap[g]? = some (.cells cs 92 (0, 0)) ∧ cs.size = 64 ∧ cs.toList.drop i = encBy sfx ∧ i + sfx.length = 64 ∧ ∀ j, j < i → cs[j]? = some (.int .u8 0)
theorem ArrU.lt {w : World} {g i : Nat} {sfx : List UInt8} (h : ArrU w g i sfx) : g < w.heap.size := by
  obtain ⟨cs, h, _⟩ := h
  exact (Array.getElem?_eq_some_iff.1 h).1
theorem ArrU.frozen {w : World} {g i : Nat} {sfx : List UInt8} (h : ArrU w g i sfx) (j : Nat) : w.frozen? ⟨g, j, none⟩ = false := by
  obtain ⟨cs, h, _⟩ := h
  simp [World.frozen?, h]
theorem ArrU.cell {w : World} {g i : Nat} {sfx : List UInt8} (h : ArrU w g (i + 1) sfx) : w.cell? ⟨g, i, none⟩ = some (.int .u8 0) := by
  obtain ⟨cs, h, _, _, _, h0⟩ := h
  rw [cell_of_row w g i _ _ _ h]
  exact h0 i (Nat.lt_succ_self i)
theorem ArrU.set {w : World} {g i : Nat} {sfx : List UInt8} (h : ArrU w g (i + 1) sfx) (b : UInt8) : ArrU (w.setCell ⟨g, i, none⟩ (.int .u8 b.toNat)) g i (b :: sfx) := by
  obtain ⟨cs, h1, h2, h3, h4, h0⟩ := h
  have hi : i < cs.size := by omega
  refine ⟨cs.setIfInBounds i (.int .u8 b.toNat), ?_, by simpa using h2, ?_, by simp; omega, fun j hj => ?_⟩
  · simp [World.setCell, Array.getElem?_modify, h1]
  · rw [Array.toList_setIfInBounds, List.drop_set, if_neg (by omega), Nat.sub_self, List.drop_eq_getElem_cons (by simpa using hi), h3]
    rfl
  · rw [Array.getElem?_setIfInBounds_ne (by omega)]
    exact h0 j (by omega)
theorem ArrU.conv {w : World} {g i : Nat} {sfx : List UInt8} (h : ArrU w g i sfx) (n c : Nat) (hn : n = sfx.length) : (convert 72 9 (.slice (some ⟨g, i, none⟩) n c)).run Tryz.prog w = .ok (.string (strL sfx)) w := by
  subst hn
  obtain ⟨cs, h1, h2, h3, h4, h0⟩ := h
  refine run_convert_bytes_back w _ _ _ _ c sfx Tryz.underlying72 Tryz.underlying5 Tryz.underlying9 fun j hj => ?_
  rw [show (⟨g, i, none⟩ : Addr).add j = ⟨g, i + j, none⟩ by unfold Addr.add; split <;> simp_all]
  rw [cell_of_row w g (i + j) _ _ _ h1]
  have : cs.toList[i + j]? = (encBy sfx)[j]? := by rw [← h3, List.getElem?_drop]
  rw [← Array.getElem?_toList, this]
  simp [encBy, List.getElem?_eq_getElem hj]
theorem rep64 (j : Nat) (hj : j < 64) : (List.replicate 64 (Value.int .u8 0)).toArray[j]? = some (Value.int .u8 0) := by
  rw [List.getElem?_toArray, List.getElem?_replicate, if_pos hj]
set_option maxRecDepth 100000 in
set_option maxHeartbeats 1000000 in
theorem formatUint_any (w : World) (n : Nat) (hn : n < 18446744073709551616) :
    Calls Tryz.prog 97 #[.int .u64 n, .int .i64 10] w (TextIs (Lib.decDigits n) w) := by
  have hl20 : (Lib.decDigits n).length ≤ 20 := dec_length 19 n (by omega)
  go_enter Tryz.func97, Tryz.ntmps97
  go_wp2_with fail
  go_loopw [0, 6] (fun nv iv wr => ∃ (m i : Nat) (sfx : List UInt8), nv = .int .u64 m ∧ iv = .int .i64 i ∧ m < 18446744073709551616 ∧ i ≤ 64 ∧ Hid (DigRest n m sfx ∧ Below w.heap.size w wr ∧ ArrU wr w.heap.size i sfx)) (fun _ iv _ => (intOf iv).toNat)
  case atStart =>
    refine ⟨n, 64, [], rfl, rfl, hn, Nat.le_refl _, Lib.hid ⟨Or.inl ⟨rfl, rfl⟩, (Below.refl _ _).alloc (Nat.le_refl _) _, _, heap_alloc_new w _, rfl, rfl, rfl, fun j hj => ?_⟩⟩
    exact rep64 j hj
  case round =>
    obtain ⟨m, i, sfx, rfl, rfl, hm, hi, HF⟩ := hrel
    obtain ⟨hdr, hbel, harr⟩ := HF.out
    have hii : i + sfx.length = 64 := by obtain ⟨_, _, _, _, h, _⟩ := harr; exact h
    by_cases hgo : sfx = [] ∨ m ≠ 0
    · have hmore := hdr.more hgo
      obtain ⟨q, rfl⟩ : ∃ q, i = q + 1 := ⟨i - 1, by omega⟩
      obtain ⟨d, hd⟩ : ∃ d, d = m % 10 := ⟨_, rfl⟩
      have hdz : (m : Int) % 10 = (d : Int) := by omega
      have hd10 : d < 10 := by omega
      have hset := harr.set (UInt8.ofNat (48 + d))
      have hcell := harr.cell
      have hfro := harr.frozen q
      have hlt := harr.lt
      have hstep := hdr.step hgo
      rw [← hd] at hstep
      obtain ⟨bt, hbt⟩ : ∃ bt, bt = (UInt8.ofNat (48 + d)).toNat := ⟨_, rfl⟩
      have hbd : bt = 48 + d := hbt.trans (u8_of _ (by omega))
      rw [← hbt] at hset
      have HS := Lib.hid (And.intro hset hstep)
      have HB := Lib.hid hbel
      have hq1 : ((q + 1 : Nat) : Int) - 1 = (q : Int) := by omega
      have hcase : q = 63 ∨ (q ≠ 63 ∧ m ≠ 0) := by
        by_cases h : q = 63
        · exact Or.inl h
        · refine Or.inr ⟨h, ?_⟩
          rcases hgo with rfl | h2
          · simp at hii; omega
          · exact h2
      have HDD := Lib.hid (And.intro hbd (And.intro hd hbt))
      clear hset hstep hbel harr hdr hgo hmore hbt hbd hd
      have hk : ∀ h : d < (⟨#[48, 49, 50, 51, 52, 53, 54, 55, 56, 57, 97, 98, 99, 100, 101, 102, 103, 104, 105, 106, 107, 108, 109, 110, 111, 112, 113, 114, 115, 116, 117, 118, 119, 120, 121, 122]⟩ : ByteArray).size, ((⟨#[48, 49, 50, 51, 52, 53, 54, 55, 56, 57, 97, 98, 99, 100, 101, 102, 103, 104, 105, 106, 107, 108, 109, 110, 111, 112, 113, 114, 115, 116, 117, 118, 119, 120, 121, 122]⟩ : ByteArray)[d]'h).toNat = bt := fun h => by
        rw [HDD.out.1]
        have hds : d = 0 ∨ d = 1 ∨ d = 2 ∨ d = 3 ∨ d = 4 ∨ d = 5 ∨ d = 6 ∨ d = 7 ∨ d = 8 ∨ d = 9 := by omega
        rcases hds with rfl | rfl | rfl | rfl | rfl | rfl | rfl | rfl | rfl | rfl <;> rfl
      have HK := Lib.hid hk
      have hm10 : (m : Int) / 10 = ((m / 10 : Nat) : Int) := by omega
      have HM := Lib.hid hm10
      clear hk hm10
      rcases hcase with rfl | ⟨h63, hm0⟩
      · go_wp2_with fail
        rw [HK.out, HM.out]
        exact ⟨⟨m / 10, 63, _, rfl, rfl, by omega, by decide, Lib.hid ⟨HS.out.2, HB.out.setCell (by simp) _, HS.out.1⟩⟩, by decide⟩
      · have hq64 : ((q : Int) + 1 == 64) = false := by rw [beq_eq_false_iff_ne]; omega
        have hmp : (0 : Int) < (m : Int) := by omega
        go_wp2_with fail
        rw [HK.out, HM.out]
        exact ⟨⟨m / 10, q, _, rfl, rfl, by omega, by omega, Lib.hid ⟨HS.out.2, HB.out.setCell (by simp) _, HS.out.1⟩⟩, by simp [intOf]⟩
    · have hne : sfx ≠ [] := fun h => hgo (Or.inl h)
      have hm0 : m = 0 := Classical.byContradiction fun h => hgo (Or.inr h)
      subst hm0
      have hdone := hdr.done hne
      have hlen := List.length_pos_iff.2 hne
      have hcv := harr.conv (64 - i) (64 - i) (by omega)
      have hsl : ∀ W, (Instr.sliceAt 92 (.pointer (some ⟨w.heap.size, 0, none⟩)) (some (.int .i64 i)) none none).run Tryz.prog W = .ok (.slice (some ⟨w.heap.size, i, none⟩) (64 - i) (64 - i)) W := fun W => by
        have hal : Tryz.prog.arrayLen 92 = 64 := by kernel_rfl
        have hel : Tryz.prog.elem 92 = 5 := by kernel_rfl
        have hso := (Tryz.sizeOf5 : ∀ w, (sizeOf 5).run Tryz.prog w = _)
        rw [run_sliceAt_array_l W 92 ⟨w.heap.size, 0, none⟩ (by rw [hal, hel]; exact Tryz.underlying92) .i64 (i : Int) (by omega) (by rw [hal]; omega), hel, hal, hso]
        have hi2 : ¬ (64 = i) := by omega
        simp [slicedAt, Result.andThen, hi2, Addr.add]
        omega
      rw [hdone] at hcv
      have hi64 : ((i : Int) == 64) = false := by rw [beq_eq_false_iff_ne]; omega
      have HB := Lib.hid hbel
      clear hbel harr hdr hdone hlen hgo
      go_wp2_with fail
      go_ret
      exact ⟨rfl, HB.out⟩

set_option maxRecDepth 100000 in
theorem formatInt_any (w : World) (z : Int) (h1 : -9223372036854775808 ≤ z) (h2 : z ≤ 9223372036854775807) :
    Calls Tryz.prog 81 #[.int .i64 z, .int .i64 10] w (TextIs (Lib.itoa z) w) := by
  by_cases hz : z < 0
  · have HF := Lib.hid (formatUint_any w z.natAbs (by omega))
    have e1 : IntKind.u64.wrap (-IntKind.u64.wrap z) = ((z.natAbs : Nat) : Int) := by
      unfold IntKind.wrap
      simp [IntKind.bits, IntKind.signed]
      omega
    have E1 := Lib.hid e1
    have HI : Hid (Lib.itoa z = 45 :: Lib.decDigits z.natAbs) := Lib.hid (by unfold Lib.itoa; rw [if_pos hz])
    clear e1
    go_enter Tryz.func81, Tryz.ntmps81
    go_wp2_with fail
    rw [E1.out]
    refine HF.out.mono ?_
    rintro e w2 ⟨rfl, hb2⟩
    have hsz : (strL (Lib.decDigits z.natAbs)).size ≤ 20 := by rw [strL_size]; exact dec_length 19 _ (by omega)
    go_wp2_with fail
    go_ret
    refine ⟨?_, hb2⟩
    rw [HI.out]
    show Ending.returned (Value.string ((⟨#[45]⟩ : ByteArray) ++ strL (Lib.decDigits z.natAbs))) = Ending.returned (Value.string (strL (45 :: Lib.decDigits z.natAbs)))
    congr 2
  · have HF := Lib.hid (formatUint_any w z.toNat (by omega))
    have hzt : (z.toNat : Int) = z := by omega
    rw [hzt] at HF
    have HI : Hid (Lib.itoa z = Lib.decDigits z.toNat) := Lib.hid (by unfold Lib.itoa; rw [if_neg hz])
    clear hzt
    have hz0 : 0 ≤ z := by omega
    go_enter Tryz.func81, Tryz.ntmps81
    have E2 : Hid (IntKind.u64.wrap z = z) := Lib.hid (IntWalk.u64_in _ (by omega))
    go_wp2_with fail
    first | rw [E2.out] | skip
    refine HF.out.mono ?_
    rintro e w2 ⟨rfl, hb2⟩
    go_wp2_with fail
    go_ret
    exact ⟨by rw [HI.out]; rfl, hb2⟩
end Go.Proofs.YtpigccnlembfdaaGreatDoor

/- Decimals in memory: their digits and the place of their point; the walks of trim, digit, cmp. Conditions: as each theorem states. -/
namespace Go.Proofs.YtpigccnlembfdaaGreatDoor
open Go.RowKit

/-- A slice of bytes that holds these digits. -/
def DigAt (w : World) (v : Value) (L : List Nat) : Prop := ∃ A c, v = .slice A L.length c ∧ L.length ≤ c ∧
  (L ≠ [] → ∃ g, A = some ⟨g, 0, none⟩ ∧ g < w.heap.size ∧ ∀ (i a : Nat), L[i]? = some a → w.cell? ⟨g, i, none⟩ = some (.int .u8 a))
theorem DigAt.below {w w' : World} {v : Value} {L : List Nat} (h : DigAt w v L) (hb : Below w.heap.size w w') : DigAt w' v L := by
  obtain ⟨A, c, e, hc, hx⟩ := h
  refine ⟨A, c, e, hc, fun hn => ?_⟩
  obtain ⟨g, e1, hg, hcell⟩ := hx hn
  exact ⟨g, e1, Nat.lt_of_lt_of_le hg hb.size, fun i a ha => (hb.cell hg).trans (hcell i a ha)⟩
theorem DigAt.grown {w w' : World} {v : Value} {L : List Nat} {row : Option Nat} (h : DigAt w v L) (hg : w.grownBy w' row) (hr : L ≠ [] → ∀ g, v.ownBlock = some g → row ≠ some g) : DigAt w' v L := by
  obtain ⟨A, c, rfl, hc, hx⟩ := h
  refine ⟨A, c, rfl, hc, fun hn => ?_⟩
  obtain ⟨g, rfl, hlt, hcell⟩ := hx hn
  refine ⟨g, rfl, Nat.lt_of_lt_of_le hlt hg.size, fun i a ha => ?_⟩
  rw [← hcell i a ha]
  exact World.cell?_of_block (hg.block g hlt (Ne.symm (hr hn g rfl)))
theorem DigAt.shape {w : World} {v : Value} {L : List Nat} (h : DigAt w v L) : ∃ A c, v = .slice A L.length c := by
  obtain ⟨A, c, e, _⟩ := h
  exact ⟨A, c, e⟩
theorem DigAt.lt {w : World} {v : Value} {L : List Nat} (h : DigAt w v L) (hn : L ≠ []) (g : Nat) (hg : v.ownBlock = some g) : g < w.heap.size := by
  obtain ⟨A, c, rfl, hc, hx⟩ := h
  obtain ⟨g', rfl, hlt, _⟩ := hx hn
  simp only [Value.ownBlock, Option.some.injEq] at hg
  omega
theorem digAt_take {w : World} {A : Option Addr} {L : List Nat} {k c : Nat} (hk : k ≤ L.length) (hc : k ≤ c) (hx : L ≠ [] → ∃ g, A = some ⟨g, 0, none⟩ ∧ g < w.heap.size ∧ ∀ (i a : Nat), L[i]? = some a → w.cell? ⟨g, i, none⟩ = some (.int .u8 a)) : DigAt w (.slice A k c) (L.take k) := by
  have hl : (L.take k).length = k := by rw [List.length_take]; omega
  refine ⟨A, c, by rw [hl], by omega, fun hn => ?_⟩
  obtain ⟨g, e, hg, hcell⟩ := hx (by rintro rfl; simp at hn)
  refine ⟨g, e, hg, fun i a ha => hcell i a ?_⟩
  rw [List.getElem?_take] at ha
  split at ha
  · exact ha
  · cases ha
theorem digAt_nil (w : World) : DigAt w (.slice none 0 0) [] := ⟨none, 0, rfl, Nat.le_refl _, fun h => absurd rfl h⟩
/-- A decimal: its two cells, its digits apart from them. -/
def DBox (w : World) (p : Nat) (v : Value) (dp : Int) : Prop := w.heap[p]? = some (.cells #[v, .int .i64 dp] 183 (0, 0))
theorem DBox.lt {w : World} {p : Nat} {v : Value} {dp : Int} (h : DBox w p v dp) : p < w.heap.size := (Array.getElem?_eq_some_iff.1 h).1
theorem DBox.cell0 {w : World} {p : Nat} {v : Value} {dp : Int} (h : DBox w p v dp) : w.cell? ⟨p, 0, none⟩ = some v := by rw [cell_of_row w p 0 _ _ _ h]; rfl
theorem DBox.cell1 {w : World} {p : Nat} {v : Value} {dp : Int} (h : DBox w p v dp) : w.cell? ⟨p, 1, none⟩ = some (.int .i64 dp) := by rw [cell_of_row w p 1 _ _ _ h]; rfl
theorem DBox.frozen {w : World} {p : Nat} {v : Value} {dp : Int} (h : DBox w p v dp) (i : Nat) : w.frozen? ⟨p, i, none⟩ = false := by
  unfold DBox at h; simp [World.frozen?, h]
theorem DBox.below {w w1 : World} {p : Nat} {v : Value} {dp : Int} (h : DBox w p v dp) (hb : Below w.heap.size w w1) : DBox w1 p v dp := (hb.block p h.lt).trans h
theorem DBox.keep {w w1 : World} {p : Nat} {v : Value} {dp : Int} (h : DBox w p v dp) {row : Option Nat} (hb : w.grownBy w1 row) (hr : some p ≠ row) : DBox w1 p v dp := (hb.block p h.lt hr).trans h
theorem DBox.set0 {w : World} {p : Nat} {v : Value} {dp : Int} (h : DBox w p v dp) (u : Value) : DBox (w.setCell ⟨p, 0, none⟩ u) p u dp := by
  unfold DBox at h ⊢
  simp [World.setCell, Array.getElem?_modify, h]
theorem DBox.set1 {w : World} {p : Nat} {v : Value} {dp : Int} (h : DBox w p v dp) (u : Int) : DBox (w.setCell ⟨p, 1, none⟩ (.int .i64 u)) p v u := by
  unfold DBox at h ⊢
  simp [World.setCell, Array.getElem?_modify, h]
theorem grown_cell (w : World) (g i : Nat) (v : Value) : w.grownBy (w.setCell ⟨g, i, none⟩ v) (some g) :=
  ⟨rfl, rfl, rfl, by simp, fun b hb hne => by
    have : b ≠ g := fun e => hne (by rw [e])
    simp [World.setCell, Array.getElem?_modify, Ne.symm this]⟩
theorem grown_of_below {w w' : World} (h : Below w.heap.size w w') (row : Option Nat) : w.grownBy w' row := ⟨h.os, h.tape, h.output, h.size, fun i hi _ => h.block i hi⟩
structure DecAt (w : World) (p : Nat) (L : List Nat) (dp : Int) (v : Value) : Prop where
  box : DBox w p v dp
  dig : DigAt w v L
  apart : L ≠ [] → ∀ g, v.ownBlock = some g → g ≠ p
theorem DecAt.below {w w1 : World} {p : Nat} {L : List Nat} {dp : Int} {v : Value} (h : DecAt w p L dp v) (hb : Below w.heap.size w w1) : DecAt w1 p L dp v := ⟨h.box.below hb, h.dig.below hb, h.apart⟩
theorem DecAt.grown {w w1 : World} {p q : Nat} {L : List Nat} {dp : Int} {v : Value} (h : DecAt w p L dp v) (hb : w.grownBy w1 (some q)) (hq : q ≠ p) (hr : L ≠ [] → ∀ g, v.ownBlock = some g → g ≠ q) : DecAt w1 p L dp v :=
  ⟨h.box.keep hb (fun e => hq (Option.some.inj e).symm), h.dig.grown hb (fun hn g hg e => hr hn g hg (Option.some.inj e).symm), h.apart⟩

/-- The digit at a place, 0 where there is none. -/
def at0 (L : List Nat) (i : Nat) : Nat := L.getD i 0
set_option maxRecDepth 100000 in
theorem digit_any (w : World) (p : Nat) (L : List Nat) (dp : Int) (v : Value) (h : DecAt w p L dp v) (i : Nat) (hL : L.length ≤ 1000000) :
    Calls Tryz.prog 160 #[.pointer (some ⟨p, 0, none⟩), .int .i64 i] w (fun e w' => e = .returned (.int .u8 (at0 L i : Nat)) ∧ w = w') := by
  obtain ⟨hb, hd, _⟩ := h
  have c0 := hb.cell0
  obtain ⟨A, c, rfl, hc, hx⟩ := hd
  by_cases hi : i < L.length
  · obtain ⟨a, ha⟩ : ∃ a, L[i]? = some a := ⟨_, List.getElem?_eq_getElem hi⟩
    obtain ⟨g, rfl, hg, hcell⟩ := hx (by rintro rfl; simp at hi)
    have d0 := hcell i a ha
    have e : at0 L i = a := by unfold at0; rw [List.getD_eq_getElem?_getD, ha]; rfl
    rw [e]
    clear hcell hx hb ha e
    generalize L.length = n at *
    go_enter Tryz.func160, Tryz.ntmps160
    go_wp2_with fail
    go_ret
    exact ⟨rfl, rfl⟩
  · have e : at0 L i = 0 := by unfold at0; rw [List.getD_eq_getElem?_getD, List.getElem?_eq_none (by omega)]; rfl
    rw [e]
    have hi2 : ¬ ((i : Int) < (L.length : Int)) := by omega
    clear hx hb e
    generalize L.length = n at *
    go_enter Tryz.func160, Tryz.ntmps160
    go_wp2_with fail
    go_ret
    exact ⟨rfl, rfl⟩

theorem grown_drewN (w : World) (n : Nat) (row : Option Nat) : w.grownBy (w.drewN n) row := ⟨rfl, rfl, rfl, Nat.le_refl _, fun _ _ _ => rfl⟩
theorem DBox.drewN {w : World} {p : Nat} {v : Value} {dp : Int} (h : DBox w p v dp) (n : Nat) : DBox (w.drewN n) p v dp := h
theorem DBox.drew {w : World} {p : Nat} {v : Value} {dp : Int} (h : DBox w p v dp) : DBox w.drew p v dp := h
/-- How many digits a decimal's cell shows. -/
def lenAt (w : World) (p : Nat) : Nat := match w.cell? ⟨p, 0, none⟩ with
  | some (.slice _ k _) => k
  | _ => 0
theorem DBox.lenAt {w : World} {p : Nat} {A : Option Addr} {k c : Nat} {dp : Int} (h : DBox w p (.slice A k c) dp) : lenAt w p = k := by
  unfold Go.Proofs.YtpigccnlembfdaaGreatDoor.lenAt; rw [h.cell0]
/-- What trim leaves. -/
def TrimPost (p : Nat) (L : List Nat) (dp : Int) (v : Value) (w : World) (e : Ending) (w' : World) : Prop := e = .returned (.pointer (some ⟨p, 0, none⟩)) ∧ w.grownBy w' (some p) ∧
  ∃ k v', k ≤ L.length ∧ L = L.take k ++ List.replicate (L.length - k) 0 ∧ Lasted (L.take k) ∧ v'.ownBlock = v.ownBlock ∧ DecAt w' p (L.take k) (if L.take k = [] then 0 else dp) v'
set_option maxRecDepth 100000 in
set_option maxHeartbeats 1000000 in
theorem trim_any (w : World) (p : Nat) (L : List Nat) (dp : Int) (v : Value) (h : DecAt w p L dp v) (hL : L.length ≤ 1000000) :
    Calls Tryz.prog 153 #[.pointer (some ⟨p, 0, none⟩)] w (TrimPost p L dp v w) := by
  obtain ⟨hb, hd, hap⟩ := h
  obtain ⟨A, c, rfl, hc, hx⟩ := hd
  obtain ⟨n, hn⟩ : ∃ n, n = L.length := ⟨_, rfl⟩
  rw [← hn] at hc hL hb hap ⊢
  have HN := Lib.hid hn
  have HX := Lib.hid hx
  have HB := Lib.hid hb
  have HAP := Lib.hid hap
  clear hx hn hb hap
  go_enter Tryz.func153, Tryz.ntmps153
  go_wp2_with fail
  go_loopw [4] (fun _ wr => ∃ k : Nat, k ≤ n ∧ Hid (w.grownBy wr (some p) ∧ DBox wr p (.slice A k c) dp ∧ L = L.take k ++ List.replicate (L.length - k) 0)) (fun _ wr => lenAt wr p)
  case atStart => exact ⟨n, Nat.le_refl _, Lib.hid ⟨⟨rfl, rfl, rfl, Nat.le_refl _, fun _ _ _ => rfl⟩, HB.out, by rw [HN.out]; simp⟩⟩
  case round =>
    obtain ⟨k, hk, HF⟩ := hrel
    obtain ⟨hg, hbx, hLk⟩ := HF.out
    have c0 := hbx.cell0
    have f0 := hbx.frozen 0
    have hlt := hbx.lt
    have hbd := DBox.below hbx (Below.refl _ wr).drew
    have c0d := hbd.cell0
    cases k with
    | zero =>
      have c1 := hbx.cell1
      have f1 := hbx.frozen 1
      have hbs := hbx.set1 0
      have HG := Lib.hid hg
      have HLK := Lib.hid hLk
      have HBX := Lib.hid hbx
      clear hg hbx hLk hbd hbs
      go_wp2_with fail
      go_quiet (fail)
      go_wp2_with fail
      go_ret
      have e0 : L.take 0 = [] := rfl
      refine ⟨rfl, (HG.out.trans (grown_drewN _ _ _)).trans (grown_cell _ _ _ _), 0, .slice A 0 c, Nat.zero_le _, HLK.out, fun d hd => by simp at hd, by cases A <;> rfl, ?_, ?_, fun h => by simp at h⟩
      · rw [if_pos e0]
        exact (HBX.out.drewN _).set1 0
      · exact ⟨A, c, rfl, Nat.zero_le _, fun h => absurd rfl h⟩
    | succ k =>
      obtain ⟨a, ha⟩ : ∃ a, L[k]? = some a := ⟨_, List.getElem?_eq_getElem (by have := HN.out; omega)⟩
      obtain ⟨g, rfl, hglt, hcell⟩ := HX.out (by rintro rfl; simp at ha)
      have hgp : g ≠ p := HAP.out (by rintro rfl; simp at ha) g rfl
      have d0 : wr.cell? ⟨g, k, none⟩ = some (.int .u8 a) := (World.cell?_of_block (hg.block g hglt (fun e => hgp (Option.some.inj e)))).trans (hcell k a ha)
      have HG := Lib.hid hg
      have HLK := Lib.hid hLk
      have HBX := Lib.hid hbx
      have HA := Lib.hid ha
      have HC := Lib.hid (And.intro hglt (And.intro hcell hgp))
      have hkc : k ≤ c := by omega
      clear hg hbx hLk hcell ha hbd hglt hgp
      by_cases h0 : a = 0
      · subst h0
        go_wp2_with fail
        go_quiet (fail)
        go_wp2_with fail
        have hgr := HG.out.trans (grown_drewN wr nq (some p))
        have hb1 := HBX.out.drewN nq
        clear c0 f0 d0 hlt c0d
        generalize wr.drewN nq = w1 at *
        have c0 := hb1.cell0
        have f0 := hb1.frozen 0
        have hlt := hb1.lt
        have HB1 := Lib.hid hb1
        have HGR := Lib.hid hgr
        clear hb1 hgr
        have c0s : ({ heap := w1.heap, tape := w1.tape, drawn := w1.drawn + 1, os := w1.os, output := w1.output } : World).cell? ⟨p, 0, none⟩ = some (.slice (some ⟨g, 0, none⟩) (k + 1) c) := c0
        have hkz : (k : Int) ≤ (c : Int) := by omega
        have hk0 : (0 : Int) ≤ (k : Int) := by omega
        have hwk : IntKind.i64.wrap (k : Int) = (k : Int) := IntWalk.i64_in _ (by omega)
        go_still_tail 12, (by kernel_rfl)
        clear hwk
        go_wp2_with fail
        have hset := (HB1.out.set0 (.slice (some ⟨g, 0, none⟩) k c)).drew
        have HSET := Lib.hid hset
        clear hset
        go_roundw
        case rel =>
          refine ⟨k, by omega, Lib.hid ⟨(HGR.out.trans (grown_cell _ _ _ _)).trans (grown_of_below (Below.refl _ _).drew _), HSET.out, ?_⟩⟩
          have h1 := HLK.out
          have h2 : L.take (k + 1) = L.take k ++ [0] := by rw [List.take_add_one, HA.out]; rfl
          rw [h2, List.append_assoc] at h1
          rw [show L.length - k = (L.length - (k + 1)) + 1 by have := HN.out; omega, List.replicate_succ]
          exact h1
        case measure =>
          rw [HSET.out.lenAt, HBX.out.lenAt]
          omega
      · have h0' : ((a : Int) == 0) = false := by rw [beq_eq_false_iff_ne]; omega
        have hk1 : ((k : Int) + 1 == 0) = false := by rw [beq_eq_false_iff_ne]; omega
        have H0 := Lib.hid h0
        clear h0
        go_wp2_with fail
        go_quiet (fail)
        go_wp2_with fail
        go_ret
        have hl : (L.take (k + 1)).length = k + 1 := by rw [List.length_take]; have := HN.out; omega
        have htk : L.take (k + 1) = L.take k ++ [a] := by
          obtain ⟨h1, h2⟩ := List.getElem?_eq_some_iff.1 HA.out
          rw [List.take_add_one, HA.out]; rfl
        have hgr := HG.out.trans (grown_drewN wr nq (some p))
        refine ⟨rfl, hgr, k + 1, .slice (some ⟨g, 0, none⟩) (k + 1) c, by have := HN.out; omega, HLK.out, fun d hd => ?_, rfl, ?_, ?_, fun _ q hq => ?_⟩
        · rw [htk, List.getLast?_append] at hd
          simp at hd
          rw [← hd]; exact H0.out
        · rw [if_neg (by intro e; rw [e] at hl; simp at hl)]
          exact HBX.out.drewN _
        · refine digAt_take (by have := HN.out; omega) (by omega) (fun _ => ⟨g, rfl, Nat.lt_of_lt_of_le HC.out.1 hgr.size, fun i x hx => ?_⟩)
          exact (World.cell?_of_block (hgr.block g HC.out.1 (fun e => HC.out.2.2 (Option.some.inj e)))).trans (HC.out.2.1 i x hx)
        · simp only [Value.ownBlock, Option.some.injEq] at hq
          rw [← hq]; exact HC.out.2.2
end Go.Proofs.YtpigccnlembfdaaGreatDoor

/- The walk of newDecimal: a whole number as a decimal. Conditions: as the theorem states. -/
namespace Go.Proofs.YtpigccnlembfdaaGreatDoor
open Go.RowKit

def encN (l : List Nat) : List Value := l.map fun d : Nat => Value.int .u8 (d : Int)
theorem encN_append (a b : List Nat) : encN (a ++ b) = encN a ++ encN b := by simp [encN]
theorem digAt_own {w : World} {base : Nat} {v : Value} {l : List Nat} (h : w.ownsRow base 5 1 v l.length (encN l)) : DigAt w v l ∧ ∀ g, v.ownBlock = some g → base ≤ g := by
  rcases h.2 with ⟨rfl, h0⟩ | ⟨g, cap, cur, rfl, hb, hg, h1, _⟩
  · have e : l = [] := List.length_eq_zero_iff.1 h0
    subst e
    exact ⟨digAt_nil w, fun g hg => by cases hg⟩
  · refine ⟨⟨_, cap, rfl, h1, fun _ => ⟨g, rfl, (Array.getElem?_eq_some_iff.1 hg).1, fun i a ha => ?_⟩⟩, fun g' hg' => ?_⟩
    · have := h.cells rfl i (.int .u8 a) (by simp [encN, ha])
      rwa [show (⟨g, 0, none⟩ : Addr).add i = ⟨g, i, none⟩ by unfold Addr.add; split <;> simp_all] at this
    · simp only [Value.ownBlock, Option.some.injEq] at hg'
      omega
theorem DecV.trimN {ds : List Nat} {dp : Int} {A B : Nat} : ∀ z : Nat, DecV (ds ++ List.replicate z 0) dp A B → DecV ds dp A B
  | 0, h => by simpa using h
  | z + 1, h => by
    rw [List.replicate_succ', ← List.append_assoc] at h
    exact DecV.trimN z h.trim
theorem info_u8 : (Tryz.prog.info? 5).map (fun i => (i.zero, i.size, i.bytes)) = some (some (.int .u8 0), 1, 1) := by kernel_rfl
/-- A decimal that has been made: without a zero at either end, worth A / B. -/
def MadeDec (A B : Nat) (w : World) (e : Ending) (w' : World) : Prop := ∃ p L dp v, e = .returned (.pointer (some ⟨p, 0, none⟩)) ∧ Below w.heap.size w w' ∧ w.heap.size ≤ p ∧ DecAt w' p L dp v ∧ Dm L dp A B ∧ L.length ≤ 20 ∧ dp ≤ 1000 ∧ -1000 ≤ dp ∧ ∀ g, v.ownBlock = some g → w.heap.size ≤ g
theorem grown_more {w0 w1 w2 : World} {D : Nat} {row : Option Nat} (h : w0.grownBy w1 (some D)) (h2 : w1.grownBy w2 row) (hr : ∀ k, row = some k → w0.heap.size ≤ k ∨ k = D) : w0.grownBy w2 (some D) :=
  ⟨h2.os.trans h.os, h2.tape.trans h.tape, h2.output.trans h.output, Nat.le_trans h.size h2.size, fun b hb hne =>
    (h2.block b (Nat.lt_of_lt_of_le hb h.size) (fun e => by
      rcases hr b e.symm with h3 | h3
      · omega
      · exact hne (by rw [h3]))).trans (h.block b hb hne)⟩
/-- What holds at each digit: w3 is the world at the loop, D the decimal. -/
structure ND (w3 wr : World) (D : Nat) (L : List Nat) (k : Nat) (v : Value) : Prop where
  grown : w3.grownBy wr (some D)
  box : DBox wr D v 0
  own : wr.ownsRow w3.heap.size 5 1 v k (encN (L.take k))
theorem take_snocD (l : List Nat) (k : Nat) (y : Nat) (h : l[k]? = some y) : l.take (k + 1) = l.take k ++ [y] := by
  obtain ⟨hlt, rfl⟩ := List.getElem?_eq_some_iff.1 h
  rw [List.take_add_one, List.getElem?_eq_getElem hlt]; rfl
theorem ND.step {w3 wr w5 : World} {D k g cap d : Nat} {L : List Nat} {v : Value} {o : Obj} (h : ND w3 wr D L k v) (hD : D < w3.heap.size) (hd : L[k]? = some d)
    (hown : w5.ownsRow w3.heap.size 5 1 (.slice (some ⟨g, 0, none⟩) (k + 1) cap) (k + 1) (encN (L.take k) ++ [Value.int .u8 d])) (hg : (wr.alloc o).grownBy w5 v.ownBlock) :
    ND w3 (w5.setCell ⟨D, 0, none⟩ (.slice (some ⟨g, 0, none⟩) (k + 1) cap)) D L (k + 1) (.slice (some ⟨g, 0, none⟩) (k + 1) cap) := by
  have hol := h.own.lt
  have hgl := hown.lt g rfl
  have h1 : w3.grownBy (wr.alloc o) (some D) := grown_more h.grown (grown_of_below ((Below.refl _ wr).alloc (Nat.le_refl _) o) none) (fun k hk => by cases hk)
  have h2 : w3.grownBy w5 (some D) := grown_more h1 hg (fun k hk => Or.inl (hol k hk).1)
  have hb : DBox w5 D v 0 := (h.box.below ((Below.refl _ wr).alloc (Nat.le_refl _) o)).keep hg (fun e => by have := (hol D e.symm).1; omega)
  refine ⟨h2.trans (grown_cell _ _ _ _), hb.set0 _, ?_⟩
  rw [take_snocD L k d hd, encN_append]
  exact hown.kept (grown_cell w5 D 0 _) (Or.inr (by simp [Value.ownBlock]; omega))
set_option maxRecDepth 100000 in
set_option maxHeartbeats 2000000 in
theorem newDecimal_any (w : World) (M : Nat) (hM0 : M ≠ 0) (hM : M < 18446744073709551616) :
    Calls Tryz.prog 116 #[.int .u64 M] w (MadeDec M 1 w) := by
  have HF := Lib.hid (fun w' => formatUint_any w' M hM)
  have hD := digN_map hM0
  have HL20 : Hid ((Lib.decDigits M).length ≤ 20) := Lib.hid (dec_length 19 M (by omega))
  go_enter Tryz.func116, Tryz.ntmps116
  go_wp2_with fail
  refine (HF.out _).mono ?_
  rintro e w2 ⟨rfl, hb2⟩
  obtain ⟨S, hS⟩ : ∃ S, S = strL (Lib.decDigits M) := ⟨_, rfl⟩
  have hSs : S.size = (digN M).length := by rw [hS, strL_size, ← hD, List.length_map]
  have hS20 : S.size ≤ 20 := by rw [hS, strL_size]; exact HL20.out
  have hcv := Lib.run_convert_string_bytes (P := Tryz.prog) w2 9 72 5 S Tryz.underlying9 Tryz.underlying72 Tryz.underlying5
  have hbw := Lib.bytesWorld_below w2 5 S
  have hcell : ∀ (k d : Nat), (digN M)[k]? = some d → (Lib.bytesWorld w2 5 S).cell? ⟨w2.heap.size, k, none⟩ = some (.int .u8 ((48 + d : Nat) : Int)) := fun k d hd => by
    have hk : k < S.size := by rw [hSs]; exact (List.getElem?_eq_some_iff.1 hd).1
    rw [Lib.bytesWorld_cell w2 _ S k hk]
    have h1 : S.data.toList[k]? = some (dByte d) := by rw [hS, strL_list, ← hD, List.getElem?_map, hd]; rfl
    rw [List.getD_eq_getElem?_getD, h1]
    have := dByte_nat (digN_ten M d (List.mem_of_getElem? hd))
    show some (Value.int .u8 (((dByte d).toNat : Nat) : Int)) = _
    rw [this]
  rw [← hS]
  have hbx : DBox (w.alloc (.cells #[.slice none 0 0, .int .i64 0] 183)) w.heap.size (.slice none 0 0) 0 := heap_alloc_new w _
  have hB1 : Below w.heap.size w (w.alloc (.cells #[.slice none 0 0, .int .i64 0] 183)) := (Below.refl _ _).alloc (Nat.le_refl _) _
  have hb3 := hb2.trans (hbw.mono hb2.size)
  have hbx3 := hbx.below hb3
  have hB3 := hB1.trans (hb3.mono hB1.size)
  have hs3 := hbw.size
  have hsz2 := hb2.size
  rw [World.size_alloc] at hsz2
  obtain ⟨bs, hbs⟩ : ∃ bs, bs = w2.heap.size := ⟨_, rfl⟩
  rw [← hbs] at hcv hcell hsz2
  obtain ⟨cp, hcp⟩ : ∃ cp, cp = grownCap w2 S.size 0 5 := ⟨_, rfl⟩
  rw [← hcp] at hcv
  obtain ⟨n, hn⟩ : ∃ n, n = S.size := ⟨_, rfl⟩
  have hbslt : bs < (Lib.bytesWorld w2 5 S).heap.size := by rw [Lib.bytesWorld_size, hbs]; omega
  rw [← hn] at hcv hSs hS20
  have HCELL := Lib.hid hcell
  have HBX3 := Lib.hid hbx3
  have HB3 := Lib.hid hB3
  have HSS := Lib.hid hSs
  have HSZ := Lib.hid (And.intro hsz2 hbslt)
  clear hcell hbx hbx3 hB3 hB1 hb3 hs3 hbw hS hD hbs hcp hSs hsz2 hb2 hbslt hn
  obtain ⟨i5, hi, he⟩ := Option.map_eq_some_iff.1 info_u8
  have hz0 : i5.zero = some (.int .u8 0) := congrArg (·.1) he
  have hz1 : i5.size = 1 := congrArg (·.2.1) he
  have hz2 : i5.bytes = 1 := congrArg (·.2.2) he
  have HI := Lib.hid (And.intro hi (And.intro hz0 (And.intro hz1 hz2)))
  clear hi he hz0 hz1 hz2
  go_wp2_with fail
  generalize Lib.bytesWorld w2 5 S = w3 at *
  clear hcv
  have hDw : w.heap.size < w3.heap.size := by have := HSZ.out; omega
  go_loopw [10] (fun iv wr => ∃ (k : Nat) (v : Value), k ≤ n ∧ iv = .int .i64 k ∧ Hid (ND w3 wr w.heap.size (digN M) k v)) (fun iv _ => n - (intOf iv).toNat)
  case atStart => exact ⟨0, .slice none 0 0, Nat.zero_le _, rfl, Lib.hid ⟨⟨rfl, rfl, rfl, Nat.le_refl _, fun _ _ _ => rfl⟩, HBX3.out, World.ownsRow_nil _ _ _ _⟩⟩
  case round =>
    obtain ⟨k, v, hk, rfl, HK⟩ := hrel
    have c0 := HK.out.box.cell0
    have f0 := HK.out.box.frozen 0
    have hlt0 := HK.out.box.lt
    by_cases hlt : k < n
    · obtain ⟨d, hd⟩ : ∃ d, (digN M)[k]? = some d := ⟨_, List.getElem?_eq_getElem (by have := HSS.out; omega)⟩
      have hd10 := digN_ten M d (List.mem_of_getElem? hd)
      have d0 : wr.cell? ⟨bs, k, none⟩ = some (.int .u8 ((48 + d : Nat) : Int)) := (World.cell?_of_block (HK.out.grown.block bs HSZ.out.2 (fun e => by have := HSZ.out.1; injection e with e; omega))).trans (HCELL.out k d hd)
      obtain ⟨cb, hcb⟩ : ∃ cb : Nat, cb = 48 + d := ⟨_, rfl⟩
      rw [← hcb] at d0
      have hcd : (cb : Int) - 48 = (d : Int) := by omega
      have hcb2 : cb ≤ 57 := by omega
      have hcb1 : 48 ≤ cb := by omega
      have HD := Lib.hid hd
      have hown := HK.out.own
      have hkl : k ≤ 20 := by omega
      have hszr := HK.out.grown.size
      obtain ⟨hi, hz0, hz1, hz2⟩ := HI.out
      clear hd hcb
      have hvshape : ∃ A c, v = .slice A k c := by
        rcases hown.2 with ⟨hv, h0⟩ | ⟨g, cap, cur, hv, _⟩
        · exact ⟨none, 0, by rw [hv, h0]⟩
        · exact ⟨_, cap, hv⟩
      obtain ⟨A, c, rfl⟩ := hvshape
      go_wp2_with (at_builtin; refine wpList_append_lies _ rfl _ _ 72 rfl w3.heap.size 5 i5 (.int .u8 0) 1 1 Tryz.underlying72 hi hz0 hz1 hz2 rfl (by decide) (.slice A k c) k (encN ((digN M).take k)) rfl (hown.alloc _) ⟨wr.heap.size, 0, none⟩ 1 1 [.int .u8 d] rfl rfl (fun j u hj => ?_) (by simp [Value.oneCell']) (by decide) (by unfold maxLen; omega) (by omega) (by simp; omega) (wr.heap.size + 1) (by simp) ?_)
      · obtain rfl : j = 0 := by rcases j with _ | j; rfl; simp at hj
        obtain rfl : Value.int .u8 d = u := by simpa using hj
        exact cell_of_row _ wr.heap.size 0 _ _ _ (heap_alloc_new wr _)
      intro g cap w5 hown5 hg5 _ hlt5
      have hS5 := ND.step HK.out hDw HD.out hown5 hg5
      have hb5 : DBox w5 w.heap.size (.slice A k c) 0 := (HK.out.box.below ((Below.refl _ wr).alloc (Nat.le_refl _) _)).keep hg5 (fun e => by have := (hown.lt _ e.symm).1; omega)
      have c5 := hb5.cell0
      have f5 := hb5.frozen 0
      have hl5 := hb5.lt
      have HS5 := Lib.hid hS5
      clear hS5 hown5 hg5 hb5 hlt5
      go_wp2_with fail
      go_roundw
      case rel => exact ⟨k + 1, _, by omega, by go_num, HS5⟩
      case measure => simp [intOf]; omega
    · clear c0 f0
      have hkn : k = n := by omega
      have hND := HK.out
      rw [hkn, HSS.out] at hND
      have hown := hND.own
      rw [List.take_length] at hown
      obtain ⟨hdig, hob⟩ := digAt_own hown
      obtain ⟨A, c, rfl⟩ := hdig.shape
      have hbx := hND.box.set1 ((digN M).length : Int)
      have hgrow := (hND.grown.trans (grown_cell wr w.heap.size 1 (.int .i64 ((digN M).length : Int))))
      have hdig2 := hdig.grown (grown_cell wr w.heap.size 1 (.int .i64 ((digN M).length : Int))) (fun _ g hg e => by have := hob g hg; injection e; omega)
      have hDec : DecAt (wr.setCell ⟨w.heap.size, 1, none⟩ (.int .i64 ((digN M).length : Int))) w.heap.size (digN M) (digN M).length (.slice A (digN M).length c) := ⟨hbx, hdig2, fun _ g hg e => by have := hob g hg; omega⟩
      have hT := trim_any _ _ _ _ _ hDec (by have := HSS.out; omega)
      have c0 := hND.box.cell0
      have c1 := hND.box.cell1
      have f1 := hND.box.frozen 1
      have HT := Lib.hid hT
      have HG := Lib.hid hgrow
      have HOB := Lib.hid hob
      clear hT hDec hdig2 hgrow hbx hdig hown hob hND HK
      rw [← HSS.out] at c0 HT HOB HG
      go_wp2_with fail
      refine HT.out.mono ?_
      rintro e w6 ⟨rfl, hg6, j, v', hj, hL, hla, hob', hdec⟩
      have HG6 := Lib.hid (HG.out.trans hg6)
      have HE := Lib.hid (And.intro hj (And.intro hL (And.intro hla (And.intro hob' hdec))))
      clear hg6 hj hL hla hob' hdec
      go_wp2_with fail
      go_ret
      obtain ⟨hj, hL, hla, hob', hdec⟩ := HE.out
      have hgr := HG6.out
      have hne : (digN M).take j ≠ [] := by
        intro e
        rw [e, List.nil_append] at hL
        have h1 := digN_num M
        rw [hL] at h1
        have h2 : ∀ z : Nat, num (List.replicate z 0) = 0 := fun z => by
          induction z with
          | zero => rfl
          | succ z ih => rw [List.replicate_succ', num_snoc, ih]
        rw [h2] at h1
        exact hM0 h1.symm
      rw [if_neg hne] at hdec
      have hl20 : ((digN M).take j).length ≤ 20 := by rw [List.length_take]; have := HSS.out; omega
      refine ⟨w.heap.size, (digN M).take j, _, v', rfl, ?_, Nat.le_refl _, hdec, ⟨fun d hd => digN_ten M d (List.mem_of_mem_take hd), fun d hd => ?_, hla, hne, ?_⟩, hl20, ?_, ?_, fun g hg => ?_⟩
      · exact HB3.out.grown hgr HB3.out.size (fun k hk => by injection hk; omega)
      · refine digN_headed M d ?_
        rwa [List.getElem?_take_of_lt (by
          have := List.length_pos_iff.2 hne
          rw [List.length_take] at this; omega)] at hd
      · have := DecV.whole M
        rw [hL] at this
        have h3 := this.trimN
        rw [← hL, ← HSS.out] at h3
        exact h3
      · have := HSS.out; omega
      · omega
      · rw [hob'] at hg
        have := HOB.out g hg
        have := HSZ.out
        omega
end Go.Proofs.YtpigccnlembfdaaGreatDoor
