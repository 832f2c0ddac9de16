/- The walks of the small functions that look at a value: zzFits2, zzFits1, want, part, str. Conditions: as each theorem states. -/
import Derived.Test.YtpigccnlembfdaaGreatDoorVal
import Derived.Lib.ValidLaws
namespace Go.Proofs.YtpigccnlembfdaaGreatDoor
open Go.RowKit

/-- The looker's block: its three cells. -/
def Look (w : World) (g : Nat) (p b : Int) (bad : Bool) : Prop := w.heap[g]? = some (.cells #[.int .i64 p, .int .i64 b, .bool bad] 44 (0, 0))

theorem Look.cell0 {w : World} {g : Nat} {p b : Int} {bad : Bool} (h : Look w g p b bad) : w.cell? ⟨g, 0, none⟩ = some (.int .i64 p) := cell_of_row w g 0 _ _ _ h
theorem Look.cell1 {w : World} {g : Nat} {p b : Int} {bad : Bool} (h : Look w g p b bad) : w.cell? ⟨g, 1, none⟩ = some (.int .i64 b) := cell_of_row w g 1 _ _ _ h
theorem Look.cell2 {w : World} {g : Nat} {p b : Int} {bad : Bool} (h : Look w g p b bad) : w.cell? ⟨g, 2, none⟩ = some (.bool bad) := cell_of_row w g 2 _ _ _ h
theorem Look.frozen {w : World} {g : Nat} {p b : Int} {bad : Bool} (h : Look w g p b bad) (i : Nat) : w.frozen? ⟨g, i, none⟩ = false := by
  unfold Look at h; simp [World.frozen?, h]


theorem Look.set {w : World} {g : Nat} {p b : Int} {bad : Bool} (h : Look w g p b bad) (bad' : Bool) : Look (w.setCell ⟨g, 2, none⟩ (.bool bad')) g p b bad' := by
  unfold Look at h ⊢
  simp [World.setCell, Array.getElem?_modify, h]
theorem Look.set0 {w : World} {g : Nat} {p b : Int} {bad : Bool} (h : Look w g p b bad) (p' : Int) : Look (w.setCell ⟨g, 0, none⟩ (.int .i64 p')) g p' b bad := by
  unfold Look at h ⊢
  simp [World.setCell, Array.getElem?_modify, h]
theorem Look.set1 {w : World} {g : Nat} {p b : Int} {bad : Bool} (h : Look w g p b bad) (b' : Int) : Look (w.setCell ⟨g, 1, none⟩ (.int .i64 b')) g p b' bad := by
  unfold Look at h ⊢
  simp [World.setCell, Array.getElem?_modify, h]
theorem Look.below {w w' : World} {g : Nat} {p b : Int} {bad : Bool} (h : Look w g p b bad) (hb : Below w.heap.size w w') : Look w' g p b bad := by
  have hlt : g < w.heap.size := (Array.getElem?_eq_some_iff.1 h).1
  unfold Look at h ⊢
  rw [hb.block g hlt]; exact h
/-- Nothing has turned but block g, and what is new. -/
theorem grown_set (w : World) (g i : Nat) (v : Value) : w.grownBy (w.setCell ⟨g, i, none⟩ v) (some g) :=
  ⟨rfl, rfl, rfl, by simp [World.setCell], fun k _ hne => Below.heap_setCell w ⟨g, i, none⟩ v k (by rintro rfl; exact hne rfl)⟩
theorem grown_below {w w' : World} (h : Below w.heap.size w w') (row : Option Nat) : w.grownBy w' row := ⟨h.os, h.tape, h.output, h.size, fun i hi _ => h.block i hi⟩

set_option maxHeartbeats 400000 in
theorem want_any (w : World) (g : Nat) (p b : Int) (bad ok : Bool) (h : Look w g p b bad) :
    Calls Tryz.prog 30 #[.pointer (some ⟨g, 0, none⟩), .bool ok] w fun e w' => e = .returned (.tuple #[]) ∧ w.grownBy w' (some g) ∧ Look w' g p b (bad || !ok) := by
  have hs := h.set (bad || !ok)
  have h2 := h.cell2
  have f2 := h.frozen 2
  have HS := Lib.hid hs
  clear h hs
  cases bad
  · go_enter Tryz.func30, Tryz.ntmps30
    go_wp2
    go_end0
    exact ⟨rfl, grown_set _ _ _ _, by simpa using HS.out⟩
  · go_enter Tryz.func30, Tryz.ntmps30
    go_wp2
    go_end0
    exact ⟨rfl, grown_set _ _ _ _, by simpa using HS.out⟩

/-- What part leaves: the looker's block, and what it says if nothing is bad. -/
def PartPost (g : Nat) (p b : Int) (bad : Bool) (w : World) (e : Ending) (w' : World) : Prop :=
  ∃ bad', e = .returned (.bool !bad') ∧ w.grownBy w' (some g) ∧ Look w' g (wrap64 (p + 1)) b bad' ∧ (bad' = false → bad = false ∧ wrap64 (p + 1) ≤ 400 ∧ b ≤ 2000)

set_option maxHeartbeats 400000 in
theorem part_any (w : World) (g : Nat) (p b deep : Int) (bad : Bool) (h : Look w g p b bad) :
    Calls Tryz.prog 29 #[.pointer (some ⟨g, 0, none⟩), .int .i64 deep] w (PartPost g p b bad w) := by
  have hl0 := h.set0 (wrap64 (p + 1))
  have h0 := h.cell0
  have h1 := h.cell1
  have h2 := h.cell2
  have f0 := h.frozen 0
  clear h
  by_cases c1 : wrap64 (p + 1) ≤ 400
  · by_cases h2000 : b ≤ 2000
    · by_cases c3 : deep ≤ 60
      · go_enter Tryz.func29, Tryz.ntmps29
        go_wp2_with (go_at_call 30; refine (want_any _ g _ _ _ _ hl0).mono ?_; rintro e w1 ⟨rfl, hg1, hl1⟩; have c2 := hl1.cell2)
        go_ret
        exact ⟨bad, by simp, (grown_set _ _ _ _).trans hg1, by simpa using hl1, fun hb => ⟨hb, c1, h2000⟩⟩
      · go_enter Tryz.func29, Tryz.ntmps29
        go_wp2_with (go_at_call 30; refine (want_any _ g _ _ _ _ hl0).mono ?_; rintro e w1 ⟨rfl, hg1, hl1⟩; have c2 := hl1.cell2)
        go_ret
        exact ⟨true, by simp, (grown_set _ _ _ _).trans hg1, by simpa using hl1, fun hb => absurd hb (by simp)⟩
    · go_enter Tryz.func29, Tryz.ntmps29
      go_wp2_with (go_at_call 30; refine (want_any _ g _ _ _ _ hl0).mono ?_; rintro e w1 ⟨rfl, hg1, hl1⟩; have c2 := hl1.cell2)
      go_ret
      exact ⟨true, by simp, (grown_set _ _ _ _).trans hg1, by simpa using hl1, fun hb => absurd hb (by simp)⟩
  · go_enter Tryz.func29, Tryz.ntmps29
    go_wp2_with (go_at_call 30; refine (want_any _ g _ _ _ _ hl0).mono ?_; rintro e w1 ⟨rfl, hg1, hl1⟩; have c2 := hl1.cell2)
    go_ret
    exact ⟨true, by simp, (grown_set _ _ _ _).trans hg1, by simpa using hl1, fun hb => absurd hb (by simp)⟩

/-- What is asked of utf8.ValidString; Tabs: what is asked of the world (the tables of package utf8). -/
def ValidSaid (Tabs : World → Prop) : Prop := ∀ (s : ByteArray) (w : World), s.size ≤ 9223372036854775807 → Tabs w →
  Calls Tryz.prog 14 #[.string s] w fun e w' => e = .returned (.bool (Lib.validD s.data.toList)) ∧ Below w.heap.size w w'

/-- What str leaves. -/
def StrPost (g : Nat) (p b : Int) (bad : Bool) (s : ByteArray) (w : World) (e : Ending) (w' : World) : Prop :=
  ∃ bad', e = .returned (.tuple #[]) ∧ w.grownBy w' (some g) ∧ Look w' g p (wrap64 (b + s.size)) bad' ∧ (bad' = false → bad = false ∧ wrap64 (b + s.size) ≤ 2000 ∧ Lib.validD s.data.toList = true)

set_option maxHeartbeats 400000 in
theorem str_any {Tabs : World → Prop} (hV : ValidSaid Tabs) {N : Nat} (hTk : ∀ w w' : World, ∀ g, N ≤ g → Tabs w → w.grownBy w' (some g) → Tabs w') (w : World) (g : Nat) (hNg : N ≤ g) (p b : Int) (bad : Bool) (s : ByteArray) (hT : Tabs w) (hs : s.size ≤ 9223372036854775807) (h : Look w g p b bad) :
    Calls Tryz.prog 31 #[.pointer (some ⟨g, 0, none⟩), .string s] w (StrPost g p b bad s w) := by
  have hl0 := h.set1 (wrap64 (b + s.size))
  have hT1 := hTk _ _ g hNg hT (grown_set w g 1 (.int .i64 (wrap64 (b + s.size))))
  have HV := Lib.hid hV
  have HT1 := Lib.hid hT1
  have h1 := h.cell1
  have f1 := h.frozen 1
  clear h hV hT hTk hT1
  by_cases c1 : wrap64 (b + s.size) ≤ 2000
  · go_enter Tryz.func31, Tryz.ntmps31
    go_wp2_with fail
    refine (HV.out _ _ hs HT1.out).mono ?_
    rintro e w1 ⟨rfl, hb1⟩
    have hl1 := hl0.below hb1
    obtain ⟨v, hv⟩ : ∃ v, v = Lib.validD s.data.toList := ⟨_, rfl⟩
    rw [← hv]
    have HVV := Lib.hid hv
    clear hv
    go_wp2_with (go_at_call 30; refine (want_any _ g _ _ _ _ hl1).mono ?_; rintro e w2 ⟨rfl, hg2, hl2⟩)
    go_end0
    refine ⟨bad || !v, rfl, ((grown_set _ _ _ _).trans (grown_below hb1 _)).trans hg2, hl2, fun hb => ?_⟩
    simp only [Bool.or_eq_false_iff, Bool.not_eq_false'] at hb
    exact ⟨hb.1, c1, HVV.out.symm.trans hb.2⟩
  · go_enter Tryz.func31, Tryz.ntmps31
    go_wp2_with (go_at_call 30; refine (want_any _ g _ _ _ _ hl0).mono ?_; rintro e w2 ⟨rfl, hg2, hl2⟩)
    go_end0
    exact ⟨true, rfl, (grown_set _ _ _ _).trans hg2, by simpa using hl2, by simp⟩

/-- It says something (true or false), and nothing has turned. -/
def SaysBool (w : World) (e : Ending) (w' : World) : Prop := ∃ b, e = .returned (.bool b) ∧ w = w'

set_option maxHeartbeats 400000 in
/-- zzFits2 says something, and turns nothing. -/
theorem fits2_any (w : World) (B : Nat) (A : Option Addr) (n c : Nat) (ks : List ByteArray) (h : Reads w B A (ks.map .string)) (hn : n = ks.length) (hm : n ≤ 140737488351232) :
    Calls Tryz.prog 13 #[.slice A n c] w (SaysBool w) := by
  by_cases hb : (2147483647 : Int) < (n : Int)
  · have hd : decide ((2147483647 : Int) < (n : Int)) = true := by simpa using hb
    clear h hn
    go_enter Tryz.func13, Tryz.ntmps13
    go_wp2
    go_ret
    exact ⟨_, rfl, rfl⟩
  · have hd : decide ((2147483647 : Int) < (n : Int)) = false := by simpa using hb
    have HN := Lib.hid hn
    clear hn
    go_enter Tryz.func13, Tryz.ntmps13
    go_wp2
    go_loop [4, 10] (fun _ i => ∃ k : Nat, k ≤ n ∧ i = .int .i64 k) (fun _ i => n - (intOf i).toNat)
    case atStart => exact ⟨0, Nat.zero_le _, rfl⟩
    case round =>
      obtain ⟨k, hk, rfl⟩ := hrel
      by_cases hlt : k < n
      · obtain ⟨s, hs⟩ : ∃ s, ks[k]? = some s := ⟨_, List.getElem?_eq_getElem (by rw [← HN.out]; exact hlt)⟩
        obtain ⟨ad, rfl, _, hc0⟩ := h (by intro e; have := congrArg List.length e; simp [← HN.out] at this; omega)
        have hc := hc0 k (.string s) (by simp [hs])
        clear hc0 h hs
        go_wp2
        · go_ret
          exact ⟨_, rfl, rfl⟩
        · go_round
          case rel => exact ⟨k + 1, by omega, by go_num⟩
          case measure => simp [intOf]; omega
      · go_wp2
        go_ret
        exact ⟨_, rfl, rfl⟩
end Go.Proofs.YtpigccnlembfdaaGreatDoor
