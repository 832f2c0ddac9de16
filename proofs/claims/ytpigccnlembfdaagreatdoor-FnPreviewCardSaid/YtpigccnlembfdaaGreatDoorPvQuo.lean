/- The walk of spec.quoted: a text within JSON. Conditions: as the theorem states. -/
import Derived.Test.YtpigccnlembfdaaGreatDoorPvE
import Derived.Deep.QuietTactic
import Derived.BigQuiet
namespace Go.Proofs.YtpigccnlembfdaaGreatDoor
open Go.RowKit

def hexd (n : Nat) : UInt8 := if n < 10 then UInt8.ofNat (48 + n) else UInt8.ofNat (87 + n)
/-- A byte within JSON. -/
def jq1 (c : UInt8) : List UInt8 :=
  if c = 34 ∨ c = 92 then [92, c] else if c = 10 then [92, 110] else if c = 9 then [92, 116] else if c = 13 then [92, 114] else if c = 8 then [92, 98] else if c = 12 then [92, 102]
  else if c.toNat < 32 ∨ c = 127 then [92, 117, 48, 48, hexd (c.toNat / 16), hexd (c.toNat % 16)] else [c]
theorem jq1_len (c : UInt8) : (jq1 c).length ≤ 6 := by
  unfold jq1
  repeat' split
  all_goals simp
def jqs (l : List UInt8) : List UInt8 := l.flatMap jq1
theorem jqs_len (l : List UInt8) : (jqs l).length ≤ 6 * l.length := by
  induction l with
  | nil => simp [jqs]
  | cons c r ih =>
    have := jq1_len c
    simp only [jqs, List.flatMap_cons, List.length_append, List.length_cons] at ih ⊢
    omega
theorem jqs_take (l : List UInt8) (k : Nat) (c : UInt8) (h : l[k]? = some c) : jqs (l.take (k + 1)) = jqs (l.take k) ++ jq1 c := by
  have : l.take (k + 1) = l.take k ++ [c] := by
    obtain ⟨hl, rfl⟩ := List.getElem?_eq_some_iff.1 h
    rw [List.take_add_one, List.getElem?_eq_getElem hl]; rfl
  rw [this]; simp [jqs]
/-- What quoted leaves: the text, or that nothing is said. -/
def QuoPost (s : ByteArray) (w : World) (e : Ending) (w' : World) : Prop := Below w.heap.size w w' ∧ (e = .returned (.tuple #[.string (strL (34 :: (jqs s.data.toList ++ [34]))), .int .i64 0]) ∨ e = .returned (.tuple #[.string ⟨#[]⟩, .int .i64 2]))
set_option maxRecDepth 100000 in
set_option maxHeartbeats 8000000 in
theorem quoted_any (w : World) (s : ByteArray) (hs : s.size ≤ 1000000) : Calls Tryz.prog 20 #[.string s] w (QuoPost s w) := by
  have hlen : s.size = s.data.toList.length := by simp
  have HL := Lib.hid hlen
  clear hlen
  go_enter Tryz.func20, Tryz.ntmps20
  go_wp2_with fail
  go_loopw [4, 5] (fun tv iv wr => ∃ k : Nat, k ≤ s.size ∧ iv = .int .i64 k ∧ tv = .string (strL (34 :: jqs (s.data.toList.take k))) ∧ Below w.heap.size w wr) (fun _ iv _ => s.size - (intOf iv).toNat)
  case atStart => exact ⟨0, Nat.zero_le _, rfl, rfl, Below.refl _ _⟩
  case round =>
    obtain ⟨k, hk, rfl, rfl, hbw⟩ := hrel
    have HBW := Lib.hid hbw
    clear hbw
    by_cases hlt : k < s.size
    · obtain ⟨c, hc, hsq⟩ := byte_at hlt
      obtain ⟨T, hT⟩ : ∃ T, T = strL (34 :: jqs (s.data.toList.take k)) := ⟨_, rfl⟩
      have hTs : T.size ≤ 6000001 := by
        rw [hT, strL_size]
        have := jqs_len (s.data.toList.take k)
        rw [List.length_take] at this
        have := HL.out
        simp; omega
      have hTn : ∀ u, strL (jq1 c) = u → strL (34 :: jqs (s.data.toList.take (k + 1))) = T ++ u := fun u h => by rw [jqs_take _ k c hc, hT, ← h, strL_app]; rfl
      rw [← hT]
      have HTT := Lib.hid hTn
      have HCC := Lib.hid hc
      clear hT hTn hc
      by_cases h34 : c = 34
      · subst h34
        have henc : Utf8.encode 34 = ⟨#[34]⟩ := rfl
        go_wp2_with fail
        refine ⟨⟨k + 1, by omega, by simp, ?_, HBW.out⟩, by simp [intOf]; omega⟩
        rw [HTT.out _ rfl]
        rfl
      by_cases h92 : c = 92
      · subst h92
        have henc : Utf8.encode 92 = ⟨#[92]⟩ := rfl
        go_wp2_with fail
        refine ⟨⟨k + 1, by omega, by simp, ?_, HBW.out⟩, by simp [intOf]; omega⟩
        rw [HTT.out _ rfl]
        rfl
      by_cases h10 : c = 10
      · subst h10
        go_wp2_with fail
        refine ⟨⟨k + 1, by omega, by simp, ?_, HBW.out⟩, by simp [intOf]; omega⟩
        rw [HTT.out _ rfl]
        rfl
      by_cases h9 : c = 9
      · subst h9
        go_wp2_with fail
        refine ⟨⟨k + 1, by omega, by simp, ?_, HBW.out⟩, by simp [intOf]; omega⟩
        rw [HTT.out _ rfl]
        rfl
      by_cases h13 : c = 13
      · subst h13
        go_wp2_with fail
        refine ⟨⟨k + 1, by omega, by simp, ?_, HBW.out⟩, by simp [intOf]; omega⟩
        rw [HTT.out _ rfl]
        rfl
      by_cases h8 : c = 8
      · subst h8
        go_wp2_with fail
        refine ⟨⟨k + 1, by omega, by simp, ?_, HBW.out⟩, by simp [intOf]; omega⟩
        rw [HTT.out _ rfl]
        rfl
      by_cases h12 : c = 12
      · subst h12
        go_wp2_with fail
        refine ⟨⟨k + 1, by omega, by simp, ?_, HBW.out⟩, by simp [intOf]; omega⟩
        rw [HTT.out _ rfl]
        rfl
      by_cases h0 : c = 0
      · subst h0
        go_wp2_with fail
        go_quiet (fail)
        go_wp2_with fail
        refine ⟨⟨k + 1, by omega, by simp, ?_, HBW.out.trans ((below_drewN wr nq).mono HBW.out.size)⟩, by simp [intOf]; omega⟩
        rw [HTT.out _ rfl]
        rfl
      by_cases h1 : c = 1
      · subst h1
        go_wp2_with fail
        go_quiet (fail)
        go_wp2_with fail
        refine ⟨⟨k + 1, by omega, by simp, ?_, HBW.out.trans ((below_drewN wr nq).mono HBW.out.size)⟩, by simp [intOf]; omega⟩
        rw [HTT.out _ rfl]
        rfl
      by_cases h2 : c = 2
      · subst h2
        go_wp2_with fail
        go_quiet (fail)
        go_wp2_with fail
        refine ⟨⟨k + 1, by omega, by simp, ?_, HBW.out.trans ((below_drewN wr nq).mono HBW.out.size)⟩, by simp [intOf]; omega⟩
        rw [HTT.out _ rfl]
        rfl
      by_cases h3 : c = 3
      · subst h3
        go_wp2_with fail
        go_quiet (fail)
        go_wp2_with fail
        refine ⟨⟨k + 1, by omega, by simp, ?_, HBW.out.trans ((below_drewN wr nq).mono HBW.out.size)⟩, by simp [intOf]; omega⟩
        rw [HTT.out _ rfl]
        rfl
      by_cases h4 : c = 4
      · subst h4
        go_wp2_with fail
        go_quiet (fail)
        go_wp2_with fail
        refine ⟨⟨k + 1, by omega, by simp, ?_, HBW.out.trans ((below_drewN wr nq).mono HBW.out.size)⟩, by simp [intOf]; omega⟩
        rw [HTT.out _ rfl]
        rfl
      by_cases h5 : c = 5
      · subst h5
        go_wp2_with fail
        go_quiet (fail)
        go_wp2_with fail
        refine ⟨⟨k + 1, by omega, by simp, ?_, HBW.out.trans ((below_drewN wr nq).mono HBW.out.size)⟩, by simp [intOf]; omega⟩
        rw [HTT.out _ rfl]
        rfl
      by_cases h6 : c = 6
      · subst h6
        go_wp2_with fail
        go_quiet (fail)
        go_wp2_with fail
        refine ⟨⟨k + 1, by omega, by simp, ?_, HBW.out.trans ((below_drewN wr nq).mono HBW.out.size)⟩, by simp [intOf]; omega⟩
        rw [HTT.out _ rfl]
        rfl
      by_cases h7 : c = 7
      · subst h7
        go_wp2_with fail
        go_quiet (fail)
        go_wp2_with fail
        refine ⟨⟨k + 1, by omega, by simp, ?_, HBW.out.trans ((below_drewN wr nq).mono HBW.out.size)⟩, by simp [intOf]; omega⟩
        rw [HTT.out _ rfl]
        rfl
      by_cases h11 : c = 11
      · subst h11
        go_wp2_with fail
        go_quiet (fail)
        go_wp2_with fail
        refine ⟨⟨k + 1, by omega, by simp, ?_, HBW.out.trans ((below_drewN wr nq).mono HBW.out.size)⟩, by simp [intOf]; omega⟩
        rw [HTT.out _ rfl]
        rfl
      by_cases h14 : c = 14
      · subst h14
        go_wp2_with fail
        go_quiet (fail)
        go_wp2_with fail
        refine ⟨⟨k + 1, by omega, by simp, ?_, HBW.out.trans ((below_drewN wr nq).mono HBW.out.size)⟩, by simp [intOf]; omega⟩
        rw [HTT.out _ rfl]
        rfl
      by_cases h15 : c = 15
      · subst h15
        go_wp2_with fail
        go_quiet (fail)
        go_wp2_with fail
        refine ⟨⟨k + 1, by omega, by simp, ?_, HBW.out.trans ((below_drewN wr nq).mono HBW.out.size)⟩, by simp [intOf]; omega⟩
        rw [HTT.out _ rfl]
        rfl
      by_cases h16 : c = 16
      · subst h16
        go_wp2_with fail
        go_quiet (fail)
        go_wp2_with fail
        refine ⟨⟨k + 1, by omega, by simp, ?_, HBW.out.trans ((below_drewN wr nq).mono HBW.out.size)⟩, by simp [intOf]; omega⟩
        rw [HTT.out _ rfl]
        rfl
      by_cases h17 : c = 17
      · subst h17
        go_wp2_with fail
        go_quiet (fail)
        go_wp2_with fail
        refine ⟨⟨k + 1, by omega, by simp, ?_, HBW.out.trans ((below_drewN wr nq).mono HBW.out.size)⟩, by simp [intOf]; omega⟩
        rw [HTT.out _ rfl]
        rfl
      by_cases h18 : c = 18
      · subst h18
        go_wp2_with fail
        go_quiet (fail)
        go_wp2_with fail
        refine ⟨⟨k + 1, by omega, by simp, ?_, HBW.out.trans ((below_drewN wr nq).mono HBW.out.size)⟩, by simp [intOf]; omega⟩
        rw [HTT.out _ rfl]
        rfl
      by_cases h19 : c = 19
      · subst h19
        go_wp2_with fail
        go_quiet (fail)
        go_wp2_with fail
        refine ⟨⟨k + 1, by omega, by simp, ?_, HBW.out.trans ((below_drewN wr nq).mono HBW.out.size)⟩, by simp [intOf]; omega⟩
        rw [HTT.out _ rfl]
        rfl
      by_cases h20 : c = 20
      · subst h20
        go_wp2_with fail
        go_quiet (fail)
        go_wp2_with fail
        refine ⟨⟨k + 1, by omega, by simp, ?_, HBW.out.trans ((below_drewN wr nq).mono HBW.out.size)⟩, by simp [intOf]; omega⟩
        rw [HTT.out _ rfl]
        rfl
      by_cases h21 : c = 21
      · subst h21
        go_wp2_with fail
        go_quiet (fail)
        go_wp2_with fail
        refine ⟨⟨k + 1, by omega, by simp, ?_, HBW.out.trans ((below_drewN wr nq).mono HBW.out.size)⟩, by simp [intOf]; omega⟩
        rw [HTT.out _ rfl]
        rfl
      by_cases h22 : c = 22
      · subst h22
        go_wp2_with fail
        go_quiet (fail)
        go_wp2_with fail
        refine ⟨⟨k + 1, by omega, by simp, ?_, HBW.out.trans ((below_drewN wr nq).mono HBW.out.size)⟩, by simp [intOf]; omega⟩
        rw [HTT.out _ rfl]
        rfl
      by_cases h23 : c = 23
      · subst h23
        go_wp2_with fail
        go_quiet (fail)
        go_wp2_with fail
        refine ⟨⟨k + 1, by omega, by simp, ?_, HBW.out.trans ((below_drewN wr nq).mono HBW.out.size)⟩, by simp [intOf]; omega⟩
        rw [HTT.out _ rfl]
        rfl
      by_cases h24 : c = 24
      · subst h24
        go_wp2_with fail
        go_quiet (fail)
        go_wp2_with fail
        refine ⟨⟨k + 1, by omega, by simp, ?_, HBW.out.trans ((below_drewN wr nq).mono HBW.out.size)⟩, by simp [intOf]; omega⟩
        rw [HTT.out _ rfl]
        rfl
      by_cases h25 : c = 25
      · subst h25
        go_wp2_with fail
        go_quiet (fail)
        go_wp2_with fail
        refine ⟨⟨k + 1, by omega, by simp, ?_, HBW.out.trans ((below_drewN wr nq).mono HBW.out.size)⟩, by simp [intOf]; omega⟩
        rw [HTT.out _ rfl]
        rfl
      by_cases h26 : c = 26
      · subst h26
        go_wp2_with fail
        go_quiet (fail)
        go_wp2_with fail
        refine ⟨⟨k + 1, by omega, by simp, ?_, HBW.out.trans ((below_drewN wr nq).mono HBW.out.size)⟩, by simp [intOf]; omega⟩
        rw [HTT.out _ rfl]
        rfl
      by_cases h27 : c = 27
      · subst h27
        go_wp2_with fail
        go_quiet (fail)
        go_wp2_with fail
        refine ⟨⟨k + 1, by omega, by simp, ?_, HBW.out.trans ((below_drewN wr nq).mono HBW.out.size)⟩, by simp [intOf]; omega⟩
        rw [HTT.out _ rfl]
        rfl
      by_cases h28 : c = 28
      · subst h28
        go_wp2_with fail
        go_quiet (fail)
        go_wp2_with fail
        refine ⟨⟨k + 1, by omega, by simp, ?_, HBW.out.trans ((below_drewN wr nq).mono HBW.out.size)⟩, by simp [intOf]; omega⟩
        rw [HTT.out _ rfl]
        rfl
      by_cases h29 : c = 29
      · subst h29
        go_wp2_with fail
        go_quiet (fail)
        go_wp2_with fail
        refine ⟨⟨k + 1, by omega, by simp, ?_, HBW.out.trans ((below_drewN wr nq).mono HBW.out.size)⟩, by simp [intOf]; omega⟩
        rw [HTT.out _ rfl]
        rfl
      by_cases h30 : c = 30
      · subst h30
        go_wp2_with fail
        go_quiet (fail)
        go_wp2_with fail
        refine ⟨⟨k + 1, by omega, by simp, ?_, HBW.out.trans ((below_drewN wr nq).mono HBW.out.size)⟩, by simp [intOf]; omega⟩
        rw [HTT.out _ rfl]
        rfl
      by_cases h31 : c = 31
      · subst h31
        go_wp2_with fail
        go_quiet (fail)
        go_wp2_with fail
        refine ⟨⟨k + 1, by omega, by simp, ?_, HBW.out.trans ((below_drewN wr nq).mono HBW.out.size)⟩, by simp [intOf]; omega⟩
        rw [HTT.out _ rfl]
        rfl
      have hge : 32 ≤ c.toNat := by
        refine Nat.le_of_not_lt fun hlt32 => ?_
        have hu : c = UInt8.ofNat c.toNat := by simp
        have : c.toNat = 0 ∨ c.toNat = 1 ∨ c.toNat = 2 ∨ c.toNat = 3 ∨ c.toNat = 4 ∨ c.toNat = 5 ∨ c.toNat = 6 ∨ c.toNat = 7 ∨ c.toNat = 8 ∨ c.toNat = 9 ∨ c.toNat = 10 ∨ c.toNat = 11 ∨ c.toNat = 12 ∨ c.toNat = 13 ∨ c.toNat = 14 ∨ c.toNat = 15 ∨ c.toNat = 16 ∨ c.toNat = 17 ∨ c.toNat = 18 ∨ c.toNat = 19 ∨ c.toNat = 20 ∨ c.toNat = 21 ∨ c.toNat = 22 ∨ c.toNat = 23 ∨ c.toNat = 24 ∨ c.toNat = 25 ∨ c.toNat = 26 ∨ c.toNat = 27 ∨ c.toNat = 28 ∨ c.toNat = 29 ∨ c.toNat = 30 ∨ c.toNat = 31 := by omega
        rcases this with h | h | h | h | h | h | h | h | h | h | h | h | h | h | h | h | h | h | h | h | h | h | h | h | h | h | h | h | h | h | h | h <;> rw [h] at hu <;> simp_all
      have n34 : ((c.toNat : Int) == 34) = false := by rw [beq_eq_false_iff_ne]; intro e; exact h34 (UInt8.toNat.inj (by simpa using (by omega : c.toNat = 34)))
      have n92 : ((c.toNat : Int) == 92) = false := by rw [beq_eq_false_iff_ne]; intro e; exact h92 (UInt8.toNat.inj (by simpa using (by omega : c.toNat = 92)))
      have n10 : ((c.toNat : Int) == 10) = false := by rw [beq_eq_false_iff_ne]; omega
      have n9 : ((c.toNat : Int) == 9) = false := by rw [beq_eq_false_iff_ne]; omega
      have n13 : ((c.toNat : Int) == 13) = false := by rw [beq_eq_false_iff_ne]; omega
      have n8 : ((c.toNat : Int) == 8) = false := by rw [beq_eq_false_iff_ne]; omega
      have n12 : ((c.toNat : Int) == 12) = false := by rw [beq_eq_false_iff_ne]; omega
      have n32 : ¬ (c.toNat : Int) < 32 := by omega
      by_cases h127 : c = 127
      · have n127 : ((c.toNat : Int) == 127) = true := by subst h127; rfl
        clear h34 h92 h10 h9 h13 h8 h12 h0 h1 h2 h3 h4 h5 h6 h7 h11 h14 h15 h16 h17 h18 h19 h20 h21 h22 h23 h24 h25 h26 h27 h28 h29 h30 h31 h127
        go_wp2_with fail
        go_ret2
        exact ⟨HBW.out, Or.inr rfl⟩
      · have n127 : ((c.toNat : Int) == 127) = false := by rw [beq_eq_false_iff_ne]; intro e; exact h127 (UInt8.toNat.inj (by simpa using (by omega : c.toNat = 127)))
        have hlow : ¬ (c.toNat < 32 ∨ c = 127) := fun h => h.elim (fun h => by omega) h127
        have hjq : jq1 c = [c] := by
          unfold jq1
          rw [if_neg (by simp [h34, h92]), if_neg h10, if_neg h9, if_neg h13, if_neg h8, if_neg h12, if_neg hlow]
        have hx : s.extract k (k + 1) = strL [c] := by
          apply ByteArray.ext
          apply Array.ext'
          simp only [ByteArray.data_extract, Array.toList_extract]
          rw [show strL [c] = ⟨#[c]⟩ by rfl]
          simp only [List.extract_eq_take_drop]
          obtain ⟨hl, rfl⟩ := List.getElem?_eq_some_iff.1 HCC.out
          rw [show k + 1 - k = 1 by omega, List.drop_eq_getElem_cons hl]
          simp
        have hwd := HTT.out (strL [c]) (by rw [hjq])
        have HWD := Lib.hid hwd
        obtain ⟨P, hP⟩ : ∃ P, P = strL [c] := ⟨_, rfl⟩
        have hPs : P.size = 1 := by rw [hP]; rfl
        rw [← hP] at hx HWD
        clear hwd hjq hlow hP h34 h92 h10 h9 h13 h8 h12 h0 h1 h2 h3 h4 h5 h6 h7 h11 h14 h15 h16 h17 h18 h19 h20 h21 h22 h23 h24 h25 h26 h27 h28 h29 h30 h31 h127
        go_wp2_with fail
        refine ⟨⟨k + 1, by omega, by simp, ?_, HBW.out⟩, by simp [intOf]; omega⟩
        rw [HWD.out]
    · have hks : (k : Int) = (s.size : Int) := by omega
      have e : s.data.toList.take k = s.data.toList := List.take_of_length_le (by have := HL.out; omega)
      rw [e]
      obtain ⟨T, hT⟩ : ∃ T, T = strL (34 :: jqs s.data.toList) := ⟨_, rfl⟩
      have hTs : T.size ≤ 6000001 := by
        rw [hT, strL_size]
        have := jqs_len s.data.toList
        have := HL.out
        simp; omega
      rw [← hT]
      have HTT := Lib.hid hT
      clear hT e
      go_wp2_with fail
      go_ret2
      refine ⟨HBW.out, Or.inl ?_⟩
      rw [show (34 :: (jqs s.data.toList ++ [34])) = (34 :: jqs s.data.toList) ++ [34] by rfl, ← strL_app, ← HTT.out]
      rfl
end Go.Proofs.YtpigccnlembfdaaGreatDoor
