/- Decimals, that is digits and the place of a point: what they are worth, long division by a power of two, and the decimal of a half between its neighbours. Plain Lean. Conditions: as each theorem states. -/
import Derived.Test.YtpigccnlembfdaaGreatDoorDec
namespace Go.Proofs.YtpigccnlembfdaaGreatDoor
open Go.Lib

/-- What a row of digits spells, the first ahead. -/
def num (l : List Nat) : Nat := l.foldl (fun n d => n * 10 + d) 0
theorem num_snoc (l : List Nat) (d : Nat) : num (l ++ [d]) = num l * 10 + d := by simp [num]
theorem num_acc : ∀ (l : List Nat) (acc : Nat), l.foldl (fun n d => n * 10 + d) acc = acc * 10 ^ l.length + num l
  | [], acc => by simp [num]
  | c :: r, acc => by
    have h1 := num_acc r (acc * 10 + c)
    have h2 := num_acc r (0 * 10 + c)
    have e : num (c :: r) = r.foldl (fun n d => n * 10 + d) (0 * 10 + c) := rfl
    rw [List.foldl_cons, h1, e, h2, List.length_cons, Nat.pow_succ, Nat.add_mul, Nat.zero_mul, Nat.zero_add, Nat.mul_assoc, Nat.mul_comm 10, Nat.add_assoc]
theorem num_append (a b : List Nat) : num (a ++ b) = num a * 10 ^ b.length + num b := by
  have : num (a ++ b) = b.foldl (fun n d => n * 10 + d) (num a) := by simp [num]
  rw [this, num_acc]
def Ten (l : List Nat) : Prop := ∀ d ∈ l, d < 10
theorem num_cons (c : Nat) (r : List Nat) : num (c :: r) = c * 10 ^ r.length + num r := by
  have := num_append [c] r
  simpa [num] using this
theorem num_lt : ∀ (l : List Nat), Ten l → num l < 10 ^ l.length
  | [], _ => by simp [num]
  | c :: r, h => by
    have ih := num_lt r (fun d hd => h d (List.mem_cons_of_mem _ hd))
    have hc := h c (List.mem_cons_self ..)
    rw [num_cons, List.length_cons, Nat.pow_succ]
    have : c * 10 ^ r.length ≤ 9 * 10 ^ r.length := Nat.mul_le_mul_right _ (by omega)
    omega
/-- The first digit is none of 0. -/
def Headed (l : List Nat) : Prop := ∀ d, l[0]? = some d → d ≠ 0
def Lasted (l : List Nat) : Prop := ∀ d, l.getLast? = some d → d ≠ 0
theorem num_ge {l : List Nat} (h : Headed l) (hne : l ≠ []) : 10 ^ (l.length - 1) ≤ num l := by
  cases l with
  | nil => exact absurd rfl hne
  | cons c r =>
    have hc : c ≠ 0 := h c rfl
    rw [num_cons, List.length_cons, Nat.add_sub_cancel]
    have : 1 * 10 ^ r.length ≤ c * 10 ^ r.length := Nat.mul_le_mul_right _ (by omega)
    omega
def dByte (d : Nat) : UInt8 := UInt8.ofNat (48 + d)
theorem dByte_nat {d : Nat} (h : d < 10) : (dByte d).toNat = 48 + d := u8_of _ (by omega)
theorem val_map (l : List Nat) (h : Ten l) : val (l.map dByte) = num l := by
  have : ∀ (l : List Nat) (acc : Nat), Ten l → (l.map dByte).foldl (fun n c => n * 10 + (c.toNat - 48)) acc = l.foldl (fun n d => n * 10 + d) acc := fun l => by
    induction l with
    | nil => intro acc _; rfl
    | cons c r ih =>
      intro acc h
      have hc := dByte_nat (h c (List.mem_cons_self ..))
      simp only [List.map_cons, List.foldl_cons]
      rw [hc, Nat.add_sub_cancel_left]
      exact ih _ (fun d hd => h d (List.mem_cons_of_mem _ hd))
  exact this l 0 h
/-- Digits without a zero in front are the digits of what they spell. -/
theorem digs_of {l : List Nat} (ht : Ten l) (hh : Headed l) (hne : l ≠ []) : l.map dByte = decDigits (num l) := by
  rw [← val_map l ht]
  refine dec_unique _ _ rfl (fun c hc => ?_) (by simpa using hne) (Or.inr fun c hc => ?_)
  · obtain ⟨d, hd, rfl⟩ := List.mem_map.1 hc
    rw [dByte_nat (ht d hd)]
    have := ht d hd
    omega
  · rw [List.getElem?_map] at hc
    cases h0 : l[0]? with
    | none => rw [h0] at hc; cases hc
    | some d =>
      rw [h0] at hc
      cases hc
      have h1 := ht d (List.mem_of_getElem? h0)
      rw [dByte_nat h1]
      have := hh d h0
      omega
theorem map_inj : ∀ {a b : List Nat}, Ten a → Ten b → a.map dByte = b.map dByte → a = b
  | [], [], _, _, _ => rfl
  | [], _ :: _, _, _, h => by simp at h
  | _ :: _, [], _, _, h => by simp at h
  | x :: a, y :: b, ha, hb, h => by
    simp only [List.map_cons, List.cons.injEq] at h
    have e := congrArg UInt8.toNat h.1
    rw [dByte_nat (ha x (List.mem_cons_self ..)), dByte_nat (hb y (List.mem_cons_self ..))] at e
    rw [show x = y by omega, map_inj (fun d hd => ha d (List.mem_cons_of_mem _ hd)) (fun d hd => hb d (List.mem_cons_of_mem _ hd)) h.2]
/-- The digits of a number, none of 0. -/
def digN (n : Nat) : List Nat := if n = 0 then [] else (decDigits n).map fun c => c.toNat - 48
theorem digN_zero : digN 0 = [] := rfl
theorem digN_map {n : Nat} (h : n ≠ 0) : (digN n).map dByte = decDigits n := by
  unfold digN
  rw [if_neg h, List.map_map]
  have h1 := (dec_facts n).1
  have : ∀ l : List UInt8, Digs l → l.map (dByte ∘ fun c => c.toNat - 48) = l := fun l => by
    induction l with
    | nil => intro _; rfl
    | cons c r ih =>
      intro hd
      have hc := hd c (List.mem_cons_self ..)
      rw [List.map_cons, ih (fun x hx => hd x (List.mem_cons_of_mem _ hx))]
      congr 1
      apply UInt8.toNat.inj
      show (UInt8.ofNat (48 + (c.toNat - 48))).toNat = _
      rw [u8_of _ (by omega)]; omega
  exact this _ h1
theorem digN_ten (n : Nat) : Ten (digN n) := by
  intro d hd
  unfold digN at hd
  split at hd
  · cases hd
  · obtain ⟨c, hc, rfl⟩ := List.mem_map.1 hd
    have := (dec_facts n).1 c hc
    omega
theorem digN_headed (n : Nat) : Headed (digN n) := by
  intro d hd
  unfold digN at hd
  split at hd
  · simp at hd
  · rename_i h
    rw [List.getElem?_map] at hd
    cases h0 : (decDigits n)[0]? with
    | none => rw [h0] at hd; cases hd
    | some c =>
      rw [h0] at hd
      cases hd
      have h1 := (dec_facts n).2.2.2 h c h0
      have h2 := (dec_facts n).1 c (List.mem_of_getElem? h0)
      show c.toNat - 48 ≠ 0
      omega
theorem digN_num (n : Nat) : num (digN n) = n := by
  by_cases h : n = 0
  · subst h; rfl
  · rw [← val_map _ (digN_ten n), digN_map h]; exact (dec_facts n).2.1
theorem digN_ne {n : Nat} (h : n ≠ 0) : digN n ≠ [] := by
  intro e
  have := digN_num n
  rw [e] at this
  exact h this.symm
/-- Digits without a zero in front. -/
theorem digN_of {l : List Nat} (ht : Ten l) (hh : Headed l) : l = digN (num l) := by
  by_cases hne : l = []
  · subst hne; rfl
  · have h1 := digs_of ht hh hne
    have h0 : num l ≠ 0 := by
      have := num_ge hh hne
      have : 0 < 10 ^ (l.length - 1) := Nat.pow_pos (by decide)
      omega
    rw [← digN_map h0] at h1
    exact map_inj ht (digN_ten _) h1

/-- Digits and a point are worth A / B. -/
def DecV (ds : List Nat) (dp : Int) (A B : Nat) : Prop := ∃ p q : Nat, num ds * 10 ^ p * B = A * 10 ^ q ∧ dp - ds.length = (p : Int) - q
theorem DecV.whole (M : Nat) : DecV (digN M) (digN M).length M 1 := ⟨0, 0, by rw [digN_num]; omega, by omega⟩
/-- A zero at the end falls away. -/
theorem DecV.trim {ds : List Nat} {dp : Int} {A B : Nat} (h : DecV (ds ++ [0]) dp A B) : DecV ds dp A B := by
  obtain ⟨p, q, h1, h2⟩ := h
  refine ⟨p + 1, q, ?_, by simp at h2; omega⟩
  rw [num_snoc] at h1
  rw [← h1, Nat.pow_succ, Nat.add_zero]
  congr 1
  rw [Nat.mul_assoc, Nat.mul_comm 10 (10 ^ p)]
theorem DecV.times {ds : List Nat} {dp : Int} {A B : Nat} (c : Nat) (hc : 0 < c) (h : DecV ds dp (A * c) (B * c)) : DecV ds dp A B := by
  obtain ⟨p, q, h1, h2⟩ := h
  refine ⟨p, q, ?_, h2⟩
  apply Nat.eq_of_mul_eq_mul_right hc
  rw [Nat.mul_assoc, h1]
  rw [Nat.mul_assoc, Nat.mul_comm c, ← Nat.mul_assoc]

/-- The first i digits, zeros behind the last. -/
def pn (ds : List Nat) (i : Nat) : Nat := num (ds.take i) * 10 ^ (i - ds.length)
theorem pn_zero (ds : List Nat) : pn ds 0 = 0 := by simp [pn, num]
theorem pn_succ (ds : List Nat) (i : Nat) : pn ds (i + 1) = pn ds i * 10 + ds.getD i 0 := by
  unfold pn
  by_cases h : i < ds.length
  · rw [show i + 1 - ds.length = 0 by omega, show i - ds.length = 0 by omega, List.take_add_one, List.getElem?_eq_getElem h]
    simp only [Option.toList_some, num_snoc, Nat.pow_zero, Nat.mul_one]
    rw [List.getD_eq_getElem?_getD, List.getElem?_eq_getElem h]; rfl
  · rw [List.take_of_length_le (by omega), List.take_of_length_le (by omega), show i + 1 - ds.length = (i - ds.length) + 1 by omega, Nat.pow_succ, ← Nat.mul_assoc]
    rw [List.getD_eq_getElem?_getD, List.getElem?_eq_none (by omega)]; rfl
theorem pn_end {ds : List Nat} {i : Nat} (h : ds.length ≤ i) : pn ds i = num ds * 10 ^ (i - ds.length) := by
  unfold pn; rw [List.take_of_length_le h]
theorem pn_pos {ds : List Nat} (hh : Headed ds) (hne : ds ≠ []) {i : Nat} (h : 1 ≤ i) : 10 ^ (i - 1) ≤ pn ds i := by
  unfold pn
  have hl : 0 < ds.length := List.length_pos_iff.2 hne
  have h1 : Headed (ds.take i) := fun d hd => hh d (by rwa [List.getElem?_take_of_lt (by omega)] at hd)
  have h2 := num_ge h1 (by intro e; have := congrArg List.length e; rw [List.length_take, List.length_nil] at this; omega)
  rw [List.length_take] at h2
  by_cases hi : i ≤ ds.length
  · rw [show i - ds.length = 0 by omega, Nat.pow_zero, Nat.mul_one]
    rwa [show min i ds.length = i by omega] at h2
  · rw [show min i ds.length = ds.length by omega] at h2
    rw [show i - 1 = (ds.length - 1) + (i - ds.length) by omega, Nat.pow_add]
    exact Nat.mul_le_mul_right _ h2

/-- What holds at each step of a long division by 2 to the power k. -/
structure Hv (ds : List Nat) (k i0 i n : Nat) (O : List Nat) : Prop where
  eq : pn ds i = num O * 10 * 2 ^ k + n
  lt : n < 10 * 2 ^ k
  ten : Ten O
  at_ : i = i0 + O.length
  first : O = [] → 2 ^ k ≤ n
  headed : Headed O
  even : ds.length ≤ i → 2 ^ (i - ds.length) ∣ n
theorem Hv.step {ds : List Nat} {k i0 i n : Nat} {O : List Nat} (h : Hv ds k i0 i n O) (ht : Ten ds) : Hv ds k i0 (i + 1) ((n % 2 ^ k) * 10 + ds.getD i 0) (O ++ [n / 2 ^ k]) := by
  have hp : 0 < 2 ^ k := Nat.pow_pos (by decide)
  have hdm := Nat.div_add_mod n (2 ^ k)
  have hml := Nat.mod_lt n hp
  have hx : ds.getD i 0 < 10 := by
    rw [List.getD_eq_getElem?_getD]
    cases hg : ds[i]? with
    | none => exact (by decide : 0 < 10)
    | some d => exact ht d (List.mem_of_getElem? hg)
  have hq : n / 2 ^ k < 10 := Nat.div_lt_of_lt_mul (by rw [Nat.mul_comm]; exact h.lt)
  refine ⟨?_, by omega, ?_, by rw [List.length_append, ← Nat.add_assoc, ← h.at_]; rfl, by simp, ?_, ?_⟩
  · rw [pn_succ, h.eq, num_snoc]
    generalize n / 2 ^ k = q at *
    generalize n % 2 ^ k = r at *
    rw [← hdm]
    generalize num O = P
    generalize 2 ^ k = z at *
    have e1 : (P * 10 + q) * 10 * z = P * 10 * z * 10 + z * q * 10 := by
      rw [Nat.add_mul, Nat.add_mul, Nat.mul_right_comm (P * 10) 10 z]
      congr 1
      rw [Nat.mul_right_comm, Nat.mul_comm q z]
    rw [e1]; omega
  · intro d hd
    rcases List.mem_append.1 hd with hd | hd
    · exact h.ten d hd
    · rw [List.mem_singleton.1 hd]; exact hq
  · intro d hd
    by_cases hO : O = []
    · have h1 := h.first hO
      subst hO
      simp at hd
      rw [← hd]
      have : 1 ≤ n / 2 ^ k := (Nat.le_div_iff_mul_le hp).2 (by omega)
      omega
    · exact h.headed d (by rwa [List.getElem?_append_left (List.length_pos_iff.2 hO)] at hd)
  · intro hl
    by_cases hi : ds.length ≤ i
    · have h1 := h.even hi
      have h2 : ds.getD i 0 = 0 := by rw [List.getD_eq_getElem?_getD, List.getElem?_eq_none hi]; rfl
      rw [h2, Nat.add_zero, show i + 1 - ds.length = (i - ds.length) + 1 by omega, Nat.pow_succ]
      have h3 : 2 ^ (i - ds.length) ∣ n % 2 ^ k := by
        by_cases hk : i - ds.length ≤ k
        · exact (Nat.dvd_mod_iff (Nat.pow_dvd_pow 2 hk)).2 h1
        · have : 2 ^ k ∣ n := Nat.dvd_trans (Nat.pow_dvd_pow 2 (by omega)) h1
          rw [Nat.mod_eq_zero_of_dvd this]; exact Nat.dvd_zero _
      exact Nat.mul_dvd_mul h3 (by decide)
    · rw [show i + 1 - ds.length = 0 by omega]; exact Nat.one_dvd _
/-- There is an end. -/
theorem Hv.bound {ds : List Nat} {k i0 i n : Nat} {O : List Nat} (h : Hv ds k i0 i n O) (hn : i < ds.length ∨ 0 < n) : i < ds.length + k + 4 := by
  rcases hn with hn | hn
  · omega
  · by_cases hi : ds.length ≤ i
    · have h1 := Nat.le_of_dvd hn (h.even hi)
      have h2 := h.lt
      have h3 : 2 ^ (i - ds.length) < 2 ^ (k + 4) := by
        rw [Nat.pow_add]
        have : 0 < 2 ^ k := Nat.pow_pos (by decide)
        omega
      have := (Nat.pow_lt_pow_iff_right (by decide : 1 < 2)).1 h3
      omega
    · omega
theorem Hv.done {ds : List Nat} {k i0 i n : Nat} {O : List Nat} {dp : Int} {A B : Nat} (h : Hv ds k i0 i n O) (hi : ds.length ≤ i) (hn : n = 0) (hv : DecV ds dp A B) : DecV O (dp - ((i0 : Int) - 1)) A (B * 2 ^ k) := by
  obtain ⟨p, q, h1, h2⟩ := hv
  have h3 := h.eq
  have h4 := h.at_
  rw [pn_end hi, hn, Nat.add_zero] at h3
  refine ⟨p + 1, q + (i - ds.length), ?_, by omega⟩
  rw [Nat.pow_add 10 q, ← Nat.mul_assoc A, ← h1, Nat.pow_succ]
  generalize num O = P at *
  generalize num ds = D at *
  generalize 10 ^ (i - ds.length) = T at *
  generalize 2 ^ k = z at *
  generalize 10 ^ p = Q at *
  calc P * (Q * 10) * (B * z) = P * 10 * z * (Q * B) := by ac_rfl
    _ = D * T * (Q * B) := by rw [h3]
    _ = D * Q * B * T := by ac_rfl
/-- The start of a long division: as many digits as make the first one. -/
theorem Hv.start {ds : List Nat} {k i : Nat} (ht : Ten ds) (hlt : pn ds i < 2 ^ k) (hge : 2 ^ k ≤ pn ds (i + 1)) : Hv ds k (i + 1) (i + 1) (pn ds (i + 1)) [] := by
  have hx : ds.getD i 0 < 10 := by
    rw [List.getD_eq_getElem?_getD]
    cases hg : ds[i]? with
    | none => exact (by decide : 0 < 10)
    | some d => exact ht d (List.mem_of_getElem? hg)
  refine ⟨by simp [num], by rw [pn_succ]; omega, fun d hd => (by cases hd), by simp, fun _ => hge, fun d hd => by simp at hd, fun hl => ?_⟩
  rw [pn_end hl]
  refine Nat.dvd_trans ?_ (Nat.dvd_mul_left _ _)
  rw [show 10 = 2 * 5 by decide, Nat.mul_pow]
  exact Nat.dvd_mul_right _ _

/-- Without a zero at either end. -/
structure Dm (ds : List Nat) (dp : Int) (A B : Nat) : Prop where
  ten : Ten ds
  headed : Headed ds
  lasted : Lasted ds
  ne : ds ≠ []
  dec : DecV ds dp A B

theorem pow_pos10 (n : Nat) : 0 < 10 ^ n := Nat.pow_pos (by decide)
/-- Between N and N + 1: the digits of N come first, and something behind them. -/
theorem Dm.part {ds : List Nat} {dp : Int} {A B N : Nat} (h : Dm ds dp A B) (h1 : N * B < A) (h2 : A < (N + 1) * B) (hN : N ≠ 0) : ∃ rest, ds = digN N ++ rest ∧ dp = (digN N).length ∧ num rest ≠ 0 := by
  obtain ⟨p, q, e1, e2⟩ := h.dec
  have hB : 0 < B := by
    rcases Nat.eq_zero_or_pos B with h0 | h0
    · rw [h0] at h2; omega
    · exact h0
  have l1 : N * 10 ^ q < num ds * 10 ^ p := by
    apply Nat.lt_of_mul_lt_mul_right (a := B)
    rw [e1]
    calc N * 10 ^ q * B = N * B * 10 ^ q := by ac_rfl
      _ < A * 10 ^ q := Nat.mul_lt_mul_of_pos_right h1 (pow_pos10 q)
  have l2 : num ds * 10 ^ p < (N + 1) * 10 ^ q := by
    apply Nat.lt_of_mul_lt_mul_right (a := B)
    rw [e1]
    calc A * 10 ^ q < (N + 1) * B * 10 ^ q := Nat.mul_lt_mul_of_pos_right h2 (pow_pos10 q)
      _ = (N + 1) * 10 ^ q * B := by ac_rfl
  have hqp : p < q := by
    refine Nat.lt_of_not_le fun hle => ?_
    obtain ⟨e, rfl⟩ : ∃ e, p = q + e := ⟨p - q, by omega⟩
    rw [Nat.pow_add, Nat.mul_comm (10 ^ q), ← Nat.mul_assoc] at l1 l2
    have a1 := Nat.lt_of_mul_lt_mul_right l1
    have a2 := Nat.lt_of_mul_lt_mul_right l2
    omega
  obtain ⟨f, rfl⟩ : ∃ f, q = p + f := ⟨q - p, by omega⟩
  rw [Nat.pow_add, Nat.mul_comm (10 ^ p), ← Nat.mul_assoc] at l1 l2
  have m1 := Nat.lt_of_mul_lt_mul_right l1
  have m2 := Nat.lt_of_mul_lt_mul_right l2
  have hlt := num_lt ds h.ten
  have hf : f < ds.length := by
    have : 10 ^ f < 10 ^ ds.length := by
      have : 1 * 10 ^ f ≤ N * 10 ^ f := Nat.mul_le_mul_right _ (by omega)
      omega
    exact (Nat.pow_lt_pow_iff_right (by decide : 1 < 10)).1 this
  have hsplit := num_append (ds.take (ds.length - f)) (ds.drop (ds.length - f))
  rw [List.take_append_drop, List.length_drop, show ds.length - (ds.length - f) = f by omega] at hsplit
  have htd : Ten (ds.drop (ds.length - f)) := fun d hd => h.ten d (List.mem_of_mem_drop hd)
  have htt : Ten (ds.take (ds.length - f)) := fun d hd => h.ten d (List.mem_of_mem_take hd)
  have hb := num_lt _ htd
  rw [List.length_drop, show ds.length - (ds.length - f) = f by omega] at hb
  have hh : Headed (ds.take (ds.length - f)) := fun d hd => h.headed d (by rwa [List.getElem?_take_of_lt (by omega)] at hd)
  have hdig := digN_of htt hh
  generalize num (ds.drop (ds.length - f)) = b at *
  have hNa : num (ds.take (ds.length - f)) = N := by
    generalize num (ds.take (ds.length - f)) = a at *
    rw [hsplit] at m1 m2
    have c1 : a < N + 1 := by
      refine Nat.lt_of_not_le fun hle => ?_
      have := Nat.mul_le_mul_right (10 ^ f) hle
      omega
    have c2 : N < a + 1 := by
      refine Nat.lt_of_not_le fun hle => ?_
      have := Nat.mul_le_mul_right (10 ^ f) hle
      rw [Nat.add_mul] at this
      omega
    omega
  rw [hNa] at hdig hsplit
  refine ⟨ds.drop (ds.length - f), ?_, ?_, ?_⟩
  · rw [← hdig, List.take_append_drop]
  · rw [← hdig, List.length_take]; omega
  · have e : num (ds.drop (ds.length - f)) = num ds - N * 10 ^ f := by
      have := num_append (ds.take (ds.length - f)) (ds.drop (ds.length - f))
      rw [List.take_append_drop, List.length_drop, show ds.length - (ds.length - f) = f by omega, hNa] at this
      omega
    rw [e]; omega
/-- Between 0 and 1: no digit before the point. -/
theorem Dm.small {ds : List Nat} {dp : Int} {A B : Nat} (h : Dm ds dp A B) (h2 : A < B) : dp ≤ 0 := by
  obtain ⟨p, q, e1, e2⟩ := h.dec
  have l2 : num ds * 10 ^ p < 10 ^ q := by
    apply Nat.lt_of_mul_lt_mul_right (a := B)
    rw [e1, Nat.mul_comm (10 ^ q)]
    exact Nat.mul_lt_mul_of_pos_right h2 (pow_pos10 q)
  have hge := num_ge h.headed h.ne
  have hl : 0 < ds.length := List.length_pos_iff.2 h.ne
  have : 10 ^ (ds.length - 1 + p) < 10 ^ q := by
    rw [Nat.pow_add]
    exact Nat.lt_of_le_of_lt (Nat.mul_le_mul_right _ hge) l2
  have := (Nat.pow_lt_pow_iff_right (by decide : 1 < 10)).1 this
  omega
theorem lasted_mod {ds : List Nat} (ht : Ten ds) (hl : Lasted ds) (hne : ds ≠ []) : num ds % 10 ≠ 0 := by
  have e := (List.dropLast_concat_getLast hne).symm
  have h1 := hl _ (List.getLast?_eq_some_getLast hne)
  have h2 := ht _ (List.getLast_mem hne)
  rw [e, num_snoc]
  omega
/-- The decimal of a half. -/
theorem Dm.half {ds : List Nat} {dp : Int} {N : Nat} (h : Dm ds dp (2 * N + 1) 2) : ds = digN N ++ [5] ∧ dp = (digN N).length := by
  obtain ⟨p, q, e1, e2⟩ := h.dec
  have hm := lasted_mod h.ten h.lasted h.ne
  have e3 : num ds * 10 ^ (p + 1) = (10 * N + 5) * 10 ^ q := by
    rw [Nat.pow_succ]
    have : num ds * 10 ^ p * 2 * 5 = (2 * N + 1) * 10 ^ q * 5 := by rw [e1]
    calc num ds * (10 ^ p * 10) = num ds * 10 ^ p * 2 * 5 := by rw [← Nat.mul_assoc, Nat.mul_assoc _ 2 5]
      _ = (2 * N + 1) * 10 ^ q * 5 := this
      _ = (2 * N + 1) * 5 * 10 ^ q := by ac_rfl
      _ = (10 * N + 5) * 10 ^ q := by congr 1; omega
  have hq : p + 1 = q := by
    rcases Nat.lt_trichotomy (p + 1) q with hlt | heq | hgt
    · exfalso
      obtain ⟨c, rfl⟩ : ∃ c, q = (p + 1) + (c + 1) := ⟨q - (p + 2), by omega⟩
      rw [Nat.pow_add 10 (p + 1) (c + 1), Nat.mul_comm (10 ^ (p + 1)), ← Nat.mul_assoc] at e3
      have e4 := Nat.eq_of_mul_eq_mul_right (pow_pos10 _) e3
      rw [Nat.pow_succ, ← Nat.mul_assoc] at e4
      omega
    · exact heq
    · exfalso
      obtain ⟨c, hc⟩ : ∃ c, p + 1 = q + (c + 1) := ⟨p - q, by omega⟩
      rw [hc, Nat.pow_add 10 q (c + 1), Nat.mul_comm (10 ^ q), ← Nat.mul_assoc] at e3
      have e4 := Nat.eq_of_mul_eq_mul_right (pow_pos10 _) e3
      rw [Nat.pow_succ, ← Nat.mul_assoc] at e4
      omega
  rw [hq] at e3
  have e5 := Nat.eq_of_mul_eq_mul_right (pow_pos10 _) e3
  have e6 : ds = digN N ++ [5] := by
    rw [digN_of h.ten h.headed, e5]
    refine (map_inj (digN_ten _) ?_ ?_)
    · intro d hd
      rcases List.mem_append.1 hd with hd | hd
      · exact digN_ten N d hd
      · rw [List.mem_singleton.1 hd]; decide
    · rw [digN_map (by omega), List.map_append]
      by_cases hN : N = 0
      · subst hN
        rw [dec_small (by decide)]; rfl
      · rw [dec_big (by omega), show (10 * N + 5) / 10 = N by omega, show (10 * N + 5) % 10 = 5 by omega, digN_map hN]; rfl
  refine ⟨e6, ?_⟩
  have := congrArg List.length e6
  rw [List.length_append] at this
  simp only [List.length_cons, List.length_nil] at this
  omega
end Go.Proofs.YtpigccnlembfdaaGreatDoor
