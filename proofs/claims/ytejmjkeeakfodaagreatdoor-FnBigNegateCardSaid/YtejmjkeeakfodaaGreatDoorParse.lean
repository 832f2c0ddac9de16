/- The walks of parseNumber and ZzToNumber at the numeral of an integer. Conditions: what ParseInt gives. -/
import Derived.Test.YtejmjkeeakfodaaGreatDoorSetStr
import Derived.Test.YtejmjkeeakfodaaGreatDoorAnyOf
namespace Go.Proofs.YtejmjkeeakfodaaGreatDoor
open Go.RowKit

def InI64 (z : Int) : Prop := -9223372036854775808 ≤ z ∧ z ≤ 9223372036854775807
/-- What is asked of strconv.ParseInt. -/
def ParseSaid (Tabs : World → Prop) : Prop := ∀ (z : Int) (w : World), (Lib.itoa z).length ≤ 400 → Tabs w →
  (InI64 z → Calls Tryz.prog 54 #[.string (str (Lib.itoa z)), .int .i64 10, .int .i64 64] w (SaysB w (.tuple #[.int .i64 z, .nilIface]))) ∧
  (¬ InI64 z → Calls Tryz.prog 54 #[.string (str (Lib.itoa z)), .int .i64 10, .int .i64 64] w (fun e w' => ∃ x tp p, e = .returned (.tuple #[.int .i64 x, .iface tp p]) ∧ Below w.heap.size w w'))
/-- What is asked of strconv.Itoa. -/
def ItoaSaid (Tabs : World → Prop) : Prop := ∀ (z : Int) (w : World), InI64 z → Tabs w → Calls Tryz.prog 22 #[.int .i64 z] w (StrPost (Lib.itoa z) w)
/-- An integer as the program has it. -/
def GoNum (w : World) (x : Value) (z : Int) : Prop := (x = .iface 3 (.int .i64 z) ∧ InI64 z) ∨ (∃ v, x = .iface 41 v ∧ ¬ InI64 z ∧ BigAt w w.heap.size v z)
def NumPost (z : Int) (w : World) (e : Ending) (w' : World) : Prop := ∃ x, e = .returned x ∧ Below w.heap.size w w' ∧ GoNum w' x z

theorem int64_in {Tabs : World → Prop} (hP : ParseSaid Tabs) (w : World) (z : Int) (hlen : (Lib.itoa z).length ≤ 400) (hT : Tabs w) (hz : InI64 z) :
    Calls Tryz.prog 43 #[.string (str (Lib.itoa z))] w (SaysB w (.tuple #[.int .i64 z, .nilIface])) := by
  have HP := Lib.hid ((hP z w hlen hT).1 hz)
  clear hP hT hlen hz
  generalize str (Lib.itoa z) = s at *
  go_enter Tryz.func43, Tryz.ntmps43
  go_wp2_with (go_at_call 54; refine HP.out.mono ?_; rintro e w2 ⟨rfl, hb2⟩)
  go_ret2
  exact ⟨rfl, hb2⟩
theorem int64_out {Tabs : World → Prop} (hP : ParseSaid Tabs) (w : World) (z : Int) (hlen : (Lib.itoa z).length ≤ 400) (hT : Tabs w) (hz : ¬ InI64 z) :
    Calls Tryz.prog 43 #[.string (str (Lib.itoa z))] w (fun e w' => ∃ x tp p, e = .returned (.tuple #[.int .i64 x, .iface tp p]) ∧ Below w.heap.size w w') := by
  have HP := Lib.hid ((hP z w hlen hT).2 hz)
  clear hP hT hlen hz
  generalize str (Lib.itoa z) = s at *
  go_enter Tryz.func43, Tryz.ntmps43
  go_wp2_with (go_at_call 54; refine HP.out.mono ?_; rintro e w2 ⟨x, tp, p, rfl, hb2⟩)
  go_ret2
  exact ⟨x, tp, p, rfl, hb2⟩
theorem numString_any (w : World) (s : ByteArray) : Calls Tryz.prog 32 #[.string s] w (Plain w (.string s)) := by
  go_enter Tryz.func32, Tryz.ntmps32
  go_wp2_with fail
  go_ret
  exact ⟨rfl, rfl⟩
theorem itoa_bytes (z : Int) : ∀ i (h : i < (str (Lib.itoa z)).size), ((str (Lib.itoa z))[i]'h).toNat < 58 ∧ ((str (Lib.itoa z))[i]'h).toNat ≠ 46 := fun i h => by
  have h1 := List.mem_of_getElem? (str_get (Lib.itoa z) i h)
  generalize (str (Lib.itoa z))[i]'h = y at *
  have h2 : ∀ n : Nat, ∀ c ∈ Lib.decDigits n, c.toNat < 58 ∧ c.toNat ≠ 46 := fun n c hc => by
    have := (dec_facts n).1 c hc
    omega
  by_cases hz : z < 0
  · rw [itoa_lt hz] at h1
    rcases List.mem_cons.1 h1 with h1 | h1
    · rw [h1]; decide
    · exact h2 _ _ h1
  · rw [itoa_ge hz] at h1
    exact h2 _ _ h1

set_option maxRecDepth 100000 in
set_option maxHeartbeats 1000000 in
theorem parseNumber_any {Tabs : World → Prop} (hP : ParseSaid Tabs) (w : World) (z : Int) (hlen : (Lib.itoa z).length ≤ 400) (hT : Tabs w) :
    Calls Tryz.prog 36 #[.string (str (Lib.itoa z))] w (NumPost z w) := by
  by_cases hz : InI64 z
  · have HI := Lib.hid (int64_in hP w z hlen hT hz)
    obtain ⟨h1, h2⟩ := hz
    clear hP hT hlen
    generalize str (Lib.itoa z) = s at *
    go_enter Tryz.func36, Tryz.ntmps36
    go_wp2_with (go_at_call 43; refine HI.out.mono ?_; rintro e w2 ⟨rfl, hb2⟩)
    go_ret
    exact ⟨_, rfl, hb2, Or.inl ⟨rfl, h1, h2⟩⟩
  · have HI := Lib.hid (int64_out hP w z hlen hT hz)
    have HC := Lib.hid (fun w' => containsAny_none w' _ (itoa_bytes z))
    have HS := Lib.hid (fun w' g2 hg => setString_any w' g2 hg z (by rintro rfl; exact hz ⟨by decide, by decide⟩) hlen)
    have HZ := Lib.hid hz
    clear hP hT hlen hz
    generalize str (Lib.itoa z) = s at *
    go_enter Tryz.func36, Tryz.ntmps36
    go_wp2_with fail
    refine HI.out.mono ?_
    rintro e w2 ⟨x, tp, p, rfl, hb2⟩
    have HB2 := Lib.hid hb2
    clear hb2
    go_wp2_with (go_at_call 32; refine (numString_any _ _).mono ?_; rintro e w3 ⟨rfl, rfl⟩)
    refine (HC.out _).mono ?_
    rintro e w3 ⟨rfl, hb3⟩
    have HB3 := Lib.hid (HB2.out.trans (hb3.mono HB2.out.size))
    clear hb3
    go_wp2_with (go_at_call 32; refine (numString_any _ _).mono ?_; rintro e w4 ⟨rfl, rfl⟩)
    refine (HS.out _ _ (NewBig.new w3)).mono ?_
    rintro e w4 ⟨rfl, hg4, hat4⟩
    have HB4 := Lib.hid ((HB3.out.alloc HB3.out.size _).grown hg4 (by have := HB3.out.size; simp; omega) (fun k hk => by have := HB3.out.size; injection hk; omega))
    have HA4 := Lib.hid hat4
    clear hg4 hat4
    go_wp2_with fail
    go_ret
    exact ⟨_, rfl, HB4.out, Or.inr ⟨_, rfl, HZ.out, HA4.out⟩⟩

theorem toNumber_any {Tabs : World → Prop} (hP : ParseSaid Tabs) (w : World) (z : Int) (hlen : (Lib.itoa z).length ≤ 400) (hT : Tabs w) :
    Calls Tryz.prog 26 #[.string (str (Lib.itoa z))] w (NumPost z w) := by
  have HN := Lib.hid (parseNumber_any hP w z hlen hT)
  clear hP hT hlen
  generalize str (Lib.itoa z) = s at *
  go_enter Tryz.func26, Tryz.ntmps26
  go_wp2_with (go_at_call 36; refine HN.out.mono ?_; rintro e w2 ⟨x, rfl, hb2, hx⟩)
  go_ret
  exact ⟨_, rfl, hb2, hx⟩
theorem zzToNumber_any {Tabs : World → Prop} (hP : ParseSaid Tabs) (w : World) (z : Int) (hlen : (Lib.itoa z).length ≤ 400) (hT : Tabs w) :
    Calls Tryz.prog 21 #[.string (str (Lib.itoa z))] w (NumPost z w) := by
  have HN := Lib.hid (toNumber_any hP w z hlen hT)
  clear hP hT hlen
  generalize str (Lib.itoa z) = s at *
  go_enter Tryz.func21, Tryz.ntmps21
  go_wp2_with (go_at_call 26; refine HN.out.mono ?_; rintro e w2 ⟨x, rfl, hb2, hx⟩)
  go_ret
  exact ⟨_, rfl, hb2, hx⟩
end Go.Proofs.YtejmjkeeakfodaaGreatDoor
