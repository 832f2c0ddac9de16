/- The walks of the reference's whole numbers as texts: below, digitsOf, IsWhole, more, WholeCmp, signed, WholeNeg; of laws.wide and laws.exact. Conditions: as each theorem states. -/
import Derived.Test.YtejmjkeeakfodaaGreatDoorWhole
import Derived.WalkKit
import Derived.WalkSpells
import Derived.WalkLawsBesides
import Derived.Lib.Hide
import Derived.WalkSmall
import Derived.Lib.AppendStr
import Derived.StillTailTactics
import Derived.Deep.RegionHeld3
namespace Go.Proofs.YtejmjkeeakfodaaGreatDoor
open Go.RowKit

def Plain (w : World) (v : Value) (e : Ending) (w' : World) : Prop := e = .returned v ∧ w = w'
theorem ext_tail {s : ByteArray} {c : UInt8} {r : List UInt8} (h : s.data.toList = c :: r) : s.extract 1 s.size = str r := by
  apply bytes_eq
  have e : s.size = r.length + 1 := by have := congrArg List.length h; simpa using this
  rw [str_list]
  simp [ByteArray.extract, ByteArray.copySlice, h, e]

theorem below_yes (w : World) (s : ByteArray) (r : List UInt8) (h : s.data.toList = 45 :: r) : Calls Tryz.prog 11 #[.string s] w (Plain w (.bool true)) := by
  have h0 : 0 < s.size := by have := congrArg List.length h; simp at this; omega
  have h1 : (s[0]'h0).toNat = 45 := by
    have := get_list s 0 h0
    rw [h] at this
    simp at this
    rw [← this]; rfl
  clear h
  go_enter Tryz.func11, Tryz.ntmps11
  go_wp2_with fail
  go_ret
  exact ⟨rfl, rfl⟩
theorem below_no (w : World) (s : ByteArray) (h : ∀ c, s.data.toList[0]? = some c → c.toNat ≠ 45) : Calls Tryz.prog 11 #[.string s] w (Plain w (.bool false)) := by
  by_cases h0 : 0 < s.size
  · have h1 : (((s[0]'h0).toNat : Int) == 45) = false := by
      have := h _ (get_list s 0 h0)
      simp; omega
    clear h
    go_enter Tryz.func11, Tryz.ntmps11
    go_wp2_with fail
    go_ret
    exact ⟨rfl, rfl⟩
  · have h1 : s.size = 0 := by omega
    clear h h0
    go_enter Tryz.func11, Tryz.ntmps11
    go_wp2_with fail
    go_ret
    exact ⟨rfl, rfl⟩
/-- Is there a sign? -/
def neg45 (l : List UInt8) : Bool := match l with
  | [] => false
  | c :: _ => c.toNat == 45
theorem below_any (w : World) (s : ByteArray) : Calls Tryz.prog 11 #[.string s] w (Plain w (.bool (neg45 s.data.toList))) := by
  cases h : s.data.toList with
  | nil => exact below_no w s (fun c hc => by rw [h] at hc; simp at hc)
  | cons c r =>
    by_cases hc : c.toNat = 45
    · have : c = 45 := UInt8.toNat.inj hc
      subst this
      exact below_yes w s r h
    · have e : neg45 (c :: r) = false := by simpa [neg45] using hc
      rw [e]
      exact below_no w s (fun x hx => by rw [h] at hx; simp at hx; rw [← hx]; exact hc)

theorem digitsOf_any (w : World) (s : ByteArray) : Calls Tryz.prog 13 #[.string s] w (Plain w (.string (str (unsg s.data.toList)))) := by
  have hB := below_any w s
  cases h : s.data.toList with
  | nil =>
    have e : s = str [] := bytes_eq (by rw [h, str_list])
    have HB := Lib.hid (show Calls _ _ _ w (Plain w (.bool false)) by rw [h] at hB; exact hB)
    clear hB
    subst e
    go_enter Tryz.func13, Tryz.ntmps13
    go_wp2_with (go_at_call 11; refine HB.out.mono ?_; rintro e w2 ⟨rfl, rfl⟩)
    go_ret
    exact ⟨rfl, rfl⟩
  | cons c r =>
    by_cases hc : c.toNat = 45
    · have e1 : unsg (c :: r) = r := unsg_yes hc
      have e2 : neg45 (c :: r) = true := by simpa [neg45] using hc
      have e3 := ext_tail h
      have e4 : 1 ≤ s.size := by have := congrArg List.length h; simp at this; omega
      have HB := Lib.hid (show Calls _ _ _ w (Plain w (.bool true)) by rw [h, e2] at hB; exact hB)
      have HE := Lib.hid e3
      rw [e1]
      clear hB h e1 e2 e3 hc
      go_enter Tryz.func13, Tryz.ntmps13
      go_wp2_with (go_at_call 11; refine HB.out.mono ?_; rintro e w2 ⟨rfl, rfl⟩)
      go_ret
      exact ⟨by rw [← HE.out]; rfl, rfl⟩
    · have e1 : unsg (c :: r) = c :: r := unsg_no hc
      have e2 : neg45 (c :: r) = false := by simpa [neg45] using hc
      have e3 : s = str (c :: r) := bytes_eq (by rw [h, str_list])
      have HB := Lib.hid (show Calls _ _ _ w (Plain w (.bool false)) by rw [h, e2] at hB; exact hB)
      have HE := Lib.hid e3
      rw [e1]
      clear hB h e1 e2 e3 hc
      go_enter Tryz.func13, Tryz.ntmps13
      go_wp2_with (go_at_call 11; refine HB.out.mono ?_; rintro e w2 ⟨rfl, rfl⟩)
      go_ret
      exact ⟨by rw [← HE.out]; rfl, rfl⟩

/-- What IsWhole says. -/
def WholeSaid (s : ByteArray) (w : World) (e : Ending) (w' : World) : Prop := ∃ b, e = .returned (.bool b) ∧ w = w' ∧ (b = true → ∃ z : Int, s.data.toList = Lib.itoa z)
set_option maxRecDepth 100000 in
set_option maxHeartbeats 1000000 in
theorem isWhole_any (w : World) (s : ByteArray) (hs : s.size ≤ 1000000) : Calls Tryz.prog 10 #[.string s] w (WholeSaid s w) := by
  have hD := digitsOf_any w s
  obtain ⟨l, hl⟩ : ∃ l, l = unsg s.data.toList := ⟨_, rfl⟩
  have hll : l.length ≤ s.size := by
    rw [hl]
    have e : s.size = s.data.toList.length := by simp
    rw [e]
    cases s.data.toList with
    | nil => exact Nat.le_refl _
    | cons c r =>
      by_cases hc : c.toNat = 45
      · rw [unsg_yes hc]; simp
      · rw [unsg_no hc]; exact Nat.le_refl _
  rw [← hl] at hD
  obtain ⟨d, hd⟩ : ∃ d, d = str l := ⟨_, rfl⟩
  have hdl : d.size = l.length := by rw [hd, str_size]
  rw [← hd] at hD
  have HD := Lib.hid hD
  have HL := Lib.hid hl
  have HS := Lib.hid hd
  have HDL := Lib.hid hdl
  have hds : d.size ≤ 1000000 := by omega
  have hget : ∀ (i : Nat) (h : i < d.size), l[i]? = some (d[i]'h) := fun i h => by
    have := get_list d i h
    rwa [show d.data.toList = l by rw [hd, str_list]] at this
  have HG := Lib.hid hget
  clear hD hl hd hdl hll hget
  by_cases h0 : d.size = 0
  · go_enter Tryz.func10, Tryz.ntmps10
    go_wp2_with (go_at_call 13; refine HD.out.mono ?_; rintro e w2 ⟨rfl, rfl⟩)
    go_ret
    exact ⟨false, rfl, rfl, fun h => by cases h⟩
  · have hne : ((d.size : Int) == 0) = false := by rw [beq_eq_false_iff_ne]; omega
    have hpos : 0 < d.size := by omega
    have hneL : l ≠ [] := by
      intro e
      have := HDL.out
      rw [e, List.length_nil] at this
      omega
    obtain ⟨c0, hc0⟩ : ∃ c0 : Nat, (d[0]'hpos).toNat = c0 := ⟨_, rfl⟩
    have HNE := Lib.hid hneL
    have hz : ∀ b : Bool, b = decide (s.toList = [48]) → (c0 ≠ 48 ∨ b = true) → (∀ c, (unsg s.data.toList)[0]? = some c → c.toNat ≠ 48) ∨ s.data.toList = [48] := fun b hb h => by
      rcases h with h | h
      · left
        intro c hc
        rw [← HL.out, HG.out 0 hpos] at hc
        cases hc
        rw [hc0]; exact h
      · right
        rw [hb] at h
        have := of_decide_eq_true h
        rwa [ByteArray.toList_eq] at this
    have HZ := Lib.hid hz
    clear hz hneL
    by_cases hc48 : c0 = 48 ∧ ¬ s.toList = [48]
    · obtain ⟨h1, h2⟩ := hc48
      have h3 : (s.toList == [48]) = false := by simpa using h2
      rw [h1] at hc0
      clear h2 h1 HZ
      go_enter Tryz.func10, Tryz.ntmps10
      go_wp2_with (go_at_call 13; refine HD.out.mono ?_; rintro e w2 ⟨rfl, rfl⟩)
      go_ret
      exact ⟨false, rfl, rfl, fun h => by cases h⟩
    · have hok := HZ.out _ rfl (by
        by_cases h : c0 = 48
        · right
          have : s.toList = [48] := Classical.byContradiction fun h2 => hc48 ⟨h, h2⟩
          exact decide_eq_true this
        · left; exact h)
      have HOK := Lib.hid hok
      have harm : ((c0 : Int) == 48) = false ∨ (c0 = 48 ∧ (s.toList == [48]) = true) := by
        by_cases h : c0 = 48
        · right
          refine ⟨h, ?_⟩
          have : s.toList = [48] := Classical.byContradiction fun h2 => hc48 ⟨h, h2⟩
          rw [this]; rfl
        · left; simp; omega
      clear hok HZ hc48
      rcases harm with harm | ⟨harm1, harm⟩
      all_goals
        first | subst harm1 | skip
        go_enter Tryz.func10, Tryz.ntmps10
        go_wp2_with (go_at_call 13; refine HD.out.mono ?_; rintro e w2 ⟨rfl, rfl⟩)
        go_loop [4] (fun i => ∃ k : Nat, k ≤ d.size ∧ i = .int .i64 k ∧ Hid (∀ j (h : j < d.size), j < k → 48 ≤ (d[j]'h).toNat ∧ (d[j]'h).toNat ≤ 57)) (fun i => d.size - (intOf i).toNat)
        case atStart => exact ⟨0, Nat.zero_le _, rfl, Lib.hid (fun j h hj => by omega)⟩
        case round =>
          obtain ⟨k, hk, rfl, HK⟩ := hrel
          by_cases hlt : k < d.size
          · obtain ⟨c, hc⟩ : ∃ c : Nat, (d[k]'hlt).toNat = c := ⟨_, rfl⟩
            by_cases hdig : 48 ≤ c ∧ c ≤ 57
            · obtain ⟨hd1, hd2⟩ := hdig
              have hd1' : ¬ ((c : Int) < 48) := by omega
              have hd2' : ¬ (57 < (c : Int)) := by omega
              go_wp2_with fail
              go_round
              case rel =>
                refine ⟨k + 1, by omega, by go_num, Lib.hid (fun j h hj => ?_)⟩
                by_cases e : j = k
                · subst e; rw [hc]; exact ⟨hd1, hd2⟩
                · exact HK.out j h (by omega)
              case measure => simp [intOf]; omega
            · have harm2 : c < 48 ∨ (48 ≤ c ∧ 57 < c) := by omega
              rcases harm2 with ha | ⟨ha1, ha⟩
              · have ha' : (c : Int) < 48 := by omega
                go_wp2_with fail
                go_ret
                exact ⟨false, rfl, rfl, fun h => by cases h⟩
              · have ha' : ¬ ((c : Int) < 48) := by omega
                have ha2 : 57 < (c : Int) := by omega
                go_wp2_with fail
                go_ret
                exact ⟨false, rfl, rfl, fun h => by cases h⟩
          · go_wp2_with fail
            go_ret
            refine ⟨true, rfl, rfl, fun _ => ?_⟩
            refine whole_itoa _ (by rw [← HL.out]; exact HNE.out) HOK.out ?_
            rw [← HL.out]
            intro x hx
            obtain ⟨j, hj, rfl⟩ := List.mem_iff_getElem.1 hx
            have hj2 : j < d.size := by have := HDL.out; omega
            have := HG.out j hj2
            rw [List.getElem?_eq_getElem hj] at this
            have e := Option.some.inj this
            rw [e]
            exact HK.out j hj2 (by omega)
end Go.Proofs.YtejmjkeeakfodaaGreatDoor
