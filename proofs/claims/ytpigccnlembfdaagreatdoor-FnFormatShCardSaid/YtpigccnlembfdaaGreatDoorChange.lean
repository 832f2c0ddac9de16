/- The walk of spec.changed at the one pair that @sh asks for. Conditions: as the theorem states. -/
import Derived.Test.YtpigccnlembfdaaGreatDoorFig
namespace Go.Proofs.YtpigccnlembfdaaGreatDoor
open Go.RowKit

/-- Each single quote as the shell wants it within quotes. -/
def escQ : List UInt8 → List UInt8
  | [] => []
  | c :: r => (if c = 39 then [39, 92, 39, 39] else [c]) ++ escQ r
theorem escQ_append (a b : List UInt8) : escQ (a ++ b) = escQ a ++ escQ b := by
  induction a with
  | nil => rfl
  | cons c r ih => simp only [List.cons_append, escQ, ih, List.append_assoc]
theorem escQ_len (a : List UInt8) : (escQ a).length ≤ 4 * a.length := by
  induction a with
  | nil => simp [escQ]
  | cons c r ih => simp only [escQ, List.length_append, List.length_cons]; split <;> simp <;> omega
/-- Without a NUL it is what the program's own replacer gives. -/
theorem esc_escQ (l : List UInt8) (h : ∀ c ∈ l, c ≠ 0) : esc l = escQ l := by
  induction l with
  | nil => rfl
  | cons c r ih =>
    have hc := h c (List.mem_cons_self ..)
    have hr := ih (fun x hx => h x (List.mem_cons_of_mem _ hx))
    have e : esc (c :: r) = esc1 c ++ esc r := by simp [esc]
    rw [e, hr, show escQ (c :: r) = (if c = 39 then [39, 92, 39, 39] else [c]) ++ escQ r from rfl]
    unfold esc1
    by_cases h39 : c = 39
    · simp [h39]
    · simp [h39, hc]
theorem escQ_take (l : List UInt8) (k : Nat) (c : UInt8) (h : l[k]? = some c) : escQ (l.take (k + 1)) = escQ (l.take k) ++ escQ [c] := by
  have : l.take (k + 1) = l.take k ++ [c] := by
    obtain ⟨hl, rfl⟩ := List.getElem?_eq_some_iff.1 h
    rw [List.take_add_one, List.getElem?_eq_getElem hl]; rfl
  rw [this, escQ_append]
theorem escQ1 {c : UInt8} (h : ¬ c = 39) : escQ [c] = [c] := by simp [escQ, h]
/-- The pair's block. -/
def PairAt (w : World) (g : Nat) : Prop := w.heap[g]? = some (.cells #[.string ⟨#[39]⟩, .string ⟨#[39, 92, 39, 39]⟩] 9 (0, 0))
set_option maxRecDepth 100000 in
set_option maxHeartbeats 2000000 in
theorem changed_any (w : World) (s : ByteArray) (g : Nat) (hs : s.size ≤ 1000000) (hg : PairAt w g) :
    Calls Tryz.prog 40 #[.string s, .slice (some ⟨g, 0, none⟩) 2 2] w (fun e w' => e = .returned (.string (strL (escQ s.data.toList))) ∧ w' = w) := by
  have g0 : w.cell? ⟨g, 0, none⟩ = some (.string ⟨#[39]⟩) := by rw [cell_of_row w g 0 _ _ _ hg]; rfl
  have g1 : w.cell? ⟨g, 1, none⟩ = some (.string ⟨#[39, 92, 39, 39]⟩) := by rw [cell_of_row w g 1 _ _ _ hg]; rfl
  have hlen : s.size = s.data.toList.length := by simp
  have HL := Lib.hid hlen
  clear hlen hg
  go_enter Tryz.func40, Tryz.ntmps40
  go_wp2_with fail
  go_loop [5, 6] (fun tv iv => ∃ k : Nat, k ≤ s.size ∧ iv = .int .i64 k ∧ tv = .string (strL (escQ (s.data.toList.take k)))) (fun _ iv => s.size - (intOf iv).toNat)
  case atStart => exact ⟨0, Nat.zero_le _, rfl, rfl⟩
  case round =>
    obtain ⟨k, hk, rfl, rfl⟩ := hrel
    by_cases hlt : k < s.size
    · obtain ⟨c, hc⟩ : ∃ c, s.data.toList[k]? = some c := ⟨_, List.getElem?_eq_getElem (by rw [← HL.out]; exact hlt)⟩
      have hx : s.extract k (k + 1) = strL [c] := by
        apply ByteArray.ext
        apply Array.ext'
        simp only [ByteArray.data_extract, Array.toList_extract]
        rw [show strL [c] = ⟨#[c]⟩ by rfl]
        simp only [List.extract_eq_take_drop]
        obtain ⟨hl, rfl⟩ := List.getElem?_eq_some_iff.1 hc
        rw [show k + 1 - k = 1 by omega, List.drop_eq_getElem_cons hl]
        simp
      obtain ⟨T, hT⟩ : ∃ T, T = strL (escQ (s.data.toList.take k)) := ⟨_, rfl⟩
      have hTs : T.size ≤ 4000000 := by
        rw [hT, strL_size]
        have := escQ_len (s.data.toList.take k)
        rw [List.length_take] at this
        have := HL.out
        omega
      rw [← hT]
      have HTT := Lib.hid (And.intro hT hc)
      clear hT hc
      by_cases h39 : c = 39
      · subst h39
        have hx2 : s.extract k (k + 1) = ⟨#[39]⟩ := hx
        clear hx
        go_wp2_with fail
        refine wp_loop_rounds 2 ?_
        rw [rounds_succ]
        go_wp2_with fail
        refine ⟨⟨k + 1, by omega, by simp, ?_⟩, by simp [intOf]; omega⟩
        rw [escQ_take _ k 39 HTT.out.2, ← strL_app, ← HTT.out.1]; rfl
      · have h39' : ¬ 39 = c := fun e => h39 e.symm
        obtain ⟨P, hP⟩ : ∃ P, P = strL [c] := ⟨_, rfl⟩
        rw [← hP] at hx
        have hPs : P.size = 1 := by rw [hP]; rfl
        have hPl : P.toList = [c] := by rw [ByteArray.toList_eq, hP]; rfl
        have hbq : ((39 : UInt8) == c) = false := by rw [beq_eq_false_iff_ne]; exact h39'
        have hPd : P.data.toList = [c] := by rw [hP]; rfl
        have HP := Lib.hid hP
        clear hP
        go_wp2_with fail
        refine wp_loop_rounds 2 ?_
        rw [rounds_succ]
        go_wp2_with fail
        rw [rounds_succ]
        go_wp2_with fail
        refine ⟨⟨k + 1, by omega, by simp, ?_⟩, by simp [intOf]; omega⟩
        rw [escQ_take _ k c HTT.out.2, ← strL_app, ← HTT.out.1, HP.out, escQ1 h39]
    · have hkn : (k : Int) = (s.size : Int) := by omega
      have e : s.data.toList.take k = s.data.toList := List.take_of_length_le (by have := HL.out; omega)
      rw [e]
      go_wp2_with fail
      go_ret
      exact ⟨rfl, rfl⟩
end Go.Proofs.YtpigccnlembfdaaGreatDoor
