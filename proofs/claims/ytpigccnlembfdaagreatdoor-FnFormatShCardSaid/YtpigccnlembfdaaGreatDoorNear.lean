/- Decimals near that of a half: what a shorter one is worth beside them. Plain Lean. Conditions: as each theorem states. -/
import Derived.Test.YtpigccnlembfdaaGreatDoorDecUp
namespace Go.Proofs.YtpigccnlembfdaaGreatDoor
open Go.RowKit

theorem at0_app_l {D X : List Nat} {i : Nat} (h : i < D.length) : at0 (D ++ X) i = at0 D i := by
  unfold at0; rw [List.getD_eq_getElem?_getD, List.getD_eq_getElem?_getD, List.getElem?_append_left h]
theorem at0_app_r {D X : List Nat} (i : Nat) : at0 (D ++ X) (D.length + i) = at0 X i := by
  unfold at0; rw [List.getD_eq_getElem?_getD, List.getD_eq_getElem?_getD, List.getElem?_append_right (by omega)]
  congr 2
  omega
theorem at0_over {D : List Nat} {i : Nat} (h : D.length ≤ i) : at0 D i = 0 := by
  unfold at0; rw [List.getD_eq_getElem?_getD, List.getElem?_eq_none h]; rfl
theorem at0_of {L : List Nat} {i a : Nat} (h : L[i]? = some a) : at0 L i = a := by
  unfold at0; rw [List.getD_eq_getElem?_getD, h]; rfl
/-- The first digit that is none of 0. -/
theorem first_digit : ∀ (X : List Nat), num X ≠ 0 → ∃ i, (∀ j, j < i → at0 X j = 0) ∧ 0 < at0 X i
  | [], h => absurd rfl h
  | c :: r, h => by
    by_cases hc : c = 0
    · subst hc
      have : num r ≠ 0 := by rw [num_cons] at h; simpa using h
      obtain ⟨i, h1, h2⟩ := first_digit r this
      refine ⟨i + 1, fun j hj => ?_, h2⟩
      cases j with
      | zero => rfl
      | succ j => exact h1 j (by omega)
    · exact ⟨0, fun j hj => by omega, Nat.pos_of_ne_zero hc⟩
/-- N and a little more. -/
def Near (N : Nat) (L : List Nat) (dp : Int) : Prop := L ≠ [] ∧ (N ≠ 0 → ∃ rest, L = digN N ++ rest ∧ dp = (digN N).length ∧ num rest ≠ 0) ∧ (N = 0 → dp ≤ 0)
theorem Dm.near {ds : List Nat} {dp : Int} {A B N : Nat} (h : Dm ds dp A B) (h1 : N * B < A) (h2 : A < (N + 1) * B) : Near N ds dp :=
  ⟨h.ne, fun hN => h.part h1 h2 hN, fun hN => h.small (by subst hN; omega)⟩
theorem take_half {N n : Nat} (hn : n ≤ (digN N).length) : (digN N ++ [5]).take n = (digN N).take n := List.take_append_of_le_length hn
theorem Near.down {N n z : Nat} {L D : List Nat} {dp : Int} (h : Near N L dp) (hn : n ≤ (digN N).length) (hD : (digN N ++ [5]).take n = D ++ List.replicate z 0) : CmpGt L dp D (if D = [] then 0 else ((digN N).length : Int)) := by
  by_cases hd : D = []
  · exact ⟨h.1, Or.inl hd⟩
  · have hN : N ≠ 0 := by
      rintro rfl
      rw [digN_zero] at hn hD
      have : n = 0 := by simpa using hn
      subst this
      simp at hD
      exact hd hD.1
    obtain ⟨rest, rfl, rfl, hr⟩ := h.2.1 hN
    rw [take_half hn] at hD
    have hpre : digN N = D ++ (List.replicate z 0 ++ (digN N).drop n) := by
      rw [← List.append_assoc, ← hD, List.take_append_drop]
    refine ⟨h.1, Or.inr ⟨hd, Or.inr ⟨by rw [if_neg hd], ?_⟩⟩⟩
    obtain ⟨X, hX⟩ : ∃ X, X = List.replicate z 0 ++ (digN N).drop n := ⟨_, rfl⟩
    rw [← hX] at hpre
    have hnum : num (X ++ rest) ≠ 0 := by rw [num_append]; omega
    obtain ⟨i, h1, h2⟩ := first_digit _ hnum
    rw [hpre, List.append_assoc]
    refine ⟨D.length + i, fun j hj => ?_, ?_⟩
    · by_cases hjd : j < D.length
      · exact at0_app_l hjd
      · obtain ⟨e, rfl⟩ : ∃ e, j = D.length + e := ⟨j - D.length, by omega⟩
        rw [at0_app_r, h1 e (by omega), at0_over (by omega)]
    · rw [at0_app_r, at0_over (by omega)]
      exact h2
/-- What up may give. -/
def UpIs (L : List Nat) (n : Nat) (dp : Int) (L' : List Nat) (dp' : Int) : Prop := (∃ j d, j < n ∧ L[j]? = some d ∧ d < 9 ∧ (∀ i, j < i → i < n → 9 ≤ at0 L i) ∧ L' = L.take j ++ [d + 1] ∧ dp' = dp) ∨ ((∀ i, i < n → 9 ≤ at0 L i) ∧ L' = [1] ∧ dp' = dp + 1)
theorem Near.up {N n : Nat} {L L' : List Nat} {dp dp' : Int} (h : Near N L dp) (hn : n ≤ (digN N).length) (hU : UpIs (digN N ++ [5]) n (digN N).length L' dp') : CmpGt L' dp' L dp := by
  rcases hU with ⟨j, d, hj, hd, hd9, _, rfl, rfl⟩ | ⟨_, rfl, rfl⟩
  · have hN : N ≠ 0 := by
      rintro rfl
      rw [digN_zero] at hn
      simp at hn; omega
    obtain ⟨rest, rfl, rfl, hr⟩ := h.2.1 hN
    have hjl : j < (digN N).length := by omega
    have hl : ((digN N ++ [5]).take j).length = j := by rw [List.length_take]; simp; omega
    refine ⟨by simp, Or.inr ⟨h.1, Or.inr ⟨rfl, j, fun i hi => ?_, ?_⟩⟩⟩
    · rw [at0_app_l (by omega), at0_app_l (by omega), take_half (by omega)]
      unfold at0
      rw [List.getD_eq_getElem?_getD, List.getD_eq_getElem?_getD, List.getElem?_take_of_lt hi]
    · have e1 : at0 ((digN N ++ [5]).take j ++ [d + 1]) j = d + 1 := by
        have := at0_app_r (D := (digN N ++ [5]).take j) (X := [d + 1]) 0
        rw [hl] at this
        exact this
      have e2 : at0 (digN N ++ rest) j = d := by
        rw [at0_app_l hjl]
        rw [List.getElem?_append_left hjl] at hd
        exact at0_of hd
      rw [e1, e2]; omega
  · refine ⟨by simp, Or.inr ⟨h.1, Or.inl ?_⟩⟩
    by_cases hN : N = 0
    · have := h.2.2 hN
      omega
    · obtain ⟨rest, _, rfl, _⟩ := h.2.1 hN
      omega
theorem ten_half (N : Nat) : Ten (digN N ++ [5]) := by
  intro d hd
  rcases List.mem_append.1 hd with hd | hd
  · exact digN_ten N d hd
  · rw [List.mem_singleton.1 hd]; decide
theorem ten_take {L D : List Nat} {n z : Nat} (ht : Ten L) (h : L.take n = D ++ List.replicate z 0) : Ten D := fun d hd => ht d (List.mem_of_mem_take (h ▸ List.mem_append_left _ hd))
theorem len_take {L D : List Nat} {n z : Nat} (h : L.take n = D ++ List.replicate z 0) : D.length ≤ L.length := by
  have := congrArg List.length h
  rw [List.length_take, List.length_append] at this
  omega
theorem ten_up {L L' : List Nat} {n : Nat} {dp dp' : Int} (ht : Ten L) (h : UpIs L n dp L' dp') : Ten L' := by
  rcases h with ⟨j, d, hj, hd, hd9, _, rfl, rfl⟩ | ⟨_, rfl, rfl⟩
  · intro x hx
    rcases List.mem_append.1 hx with hx | hx
    · exact ht x (List.mem_of_mem_take hx)
    · rw [List.mem_singleton.1 hx]; omega
  · intro x hx; rw [List.mem_singleton.1 hx]; decide
theorem len_up {L L' : List Nat} {n : Nat} {dp dp' : Int} (h : UpIs L n dp L' dp') : L'.length ≤ L.length + 1 ∧ dp ≤ dp' ∧ dp' ≤ dp + 1 := by
  rcases h with ⟨j, d, hj, hd, hd9, _, rfl, rfl⟩ | ⟨_, rfl, rfl⟩
  · rw [List.length_append, List.length_take]; simp; omega
  · simp; omega
theorem digN_len {N : Nat} (h : N < 9007199254740992) : (digN N).length ≤ 16 := by
  by_cases h0 : N = 0
  · subst h0; exact Nat.zero_le _
  · have := congrArg List.length (digN_map h0)
    rw [List.length_map] at this
    rw [this]
    exact dec_length 15 N (by omega)
/-- The steps beside a half: above and below. -/
theorem near_high {N k : Nat} {L : List Nat} {dp : Int} (hk : 1 ≤ k) (h : Dm L dp (2 * ((2 * N + 1) * 2 ^ (k - 1)) + 1) (1 * 2 ^ (k + 1))) : Near N L dp := by
  obtain ⟨j, rfl⟩ : ∃ j, k = j + 1 := ⟨k - 1, by omega⟩
  have hp : 0 < 2 ^ j := Nat.pow_pos (by decide)
  rw [Nat.add_sub_cancel, show 1 * 2 ^ (j + 1 + 1) = 4 * 2 ^ j by rw [Nat.pow_succ, Nat.pow_succ]; omega, Nat.add_mul, Nat.one_mul, Nat.mul_assoc] at h
  generalize 2 ^ j = z at *
  have e1 : N * (4 * z) = 4 * (N * z) := by ac_rfl
  have e2 : (N + 1) * (4 * z) = 4 * (N * z) + 4 * z := by rw [Nat.add_mul, e1]; omega
  exact h.near (by rw [e1]; omega) (by rw [e2]; omega)
theorem near_low {N k : Nat} {L : List Nat} {dp : Int} (hk : 1 ≤ k) (h : Dm L dp (2 * ((2 * N + 1) * 2 ^ (k - 1)) - 1) (1 * 2 ^ (k + 1))) : Near N L dp := by
  obtain ⟨j, rfl⟩ : ∃ j, k = j + 1 := ⟨k - 1, by omega⟩
  have hp : 0 < 2 ^ j := Nat.pow_pos (by decide)
  rw [Nat.add_sub_cancel, show 1 * 2 ^ (j + 1 + 1) = 4 * 2 ^ j by rw [Nat.pow_succ, Nat.pow_succ]; omega, Nat.add_mul, Nat.one_mul, Nat.mul_assoc] at h
  generalize 2 ^ j = z at *
  have e1 : N * (4 * z) = 4 * (N * z) := by ac_rfl
  have e2 : (N + 1) * (4 * z) = 4 * (N * z) + 4 * z := by rw [Nat.add_mul, e1]; omega
  exact h.near (by rw [e1]; omega) (by rw [e2]; omega)
theorem near_low2 {N k : Nat} {L : List Nat} {dp : Int} (hk : 1 ≤ k) (h : Dm L dp (4 * ((2 * N + 1) * 2 ^ (k - 1)) - 1) (1 * 2 ^ (k + 2))) : Near N L dp := by
  obtain ⟨j, rfl⟩ : ∃ j, k = j + 1 := ⟨k - 1, by omega⟩
  have hp : 0 < 2 ^ j := Nat.pow_pos (by decide)
  rw [Nat.add_sub_cancel, show 1 * 2 ^ (j + 1 + 2) = 8 * 2 ^ j by rw [Nat.pow_succ, Nat.pow_succ, Nat.pow_succ]; omega, Nat.add_mul, Nat.one_mul, Nat.mul_assoc] at h
  generalize 2 ^ j = z at *
  have e1 : N * (8 * z) = 8 * (N * z) := by ac_rfl
  have e2 : (N + 1) * (8 * z) = 8 * (N * z) + 8 * z := by rw [Nat.add_mul, e1]; omega
  exact h.near (by rw [e1]; omega) (by rw [e2]; omega)
end Go.Proofs.YtpigccnlembfdaaGreatDoor
