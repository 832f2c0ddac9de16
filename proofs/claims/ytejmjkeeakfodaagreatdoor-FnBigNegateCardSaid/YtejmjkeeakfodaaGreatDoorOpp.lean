/- The walks of gojq's negate, funcOpNegate, funcAbs and their doors, at an integer. Conditions: as each theorem states. -/
import Derived.Test.YtejmjkeeakfodaaGreatDoorAssertB
namespace Go.Proofs.YtejmjkeeakfodaaGreatDoor
open Go.RowKit

/-- An integer, small or great. -/
def AnyNum (w : World) (x : Value) (z : Int) : Prop := (x = .iface 3 (.int .i64 z) ∧ InI64 z) ∨ (∃ v, x = .iface 41 v ∧ BigAt w w.heap.size v z)
def AnyPost (z : Int) (w : World) (e : Ending) (w' : World) : Prop := ∃ x, e = .returned x ∧ Below w.heap.size w w' ∧ AnyNum w' x z

set_option maxRecDepth 100000 in
set_option maxHeartbeats 1000000 in
theorem negate_any (w : World) (z : Int) (hz : InI64 z) : Calls Tryz.prog 29 #[.int .i64 z] w (AnyPost (-z) w) := by
  obtain ⟨h1, h2⟩ := hz
  by_cases hm : z = -9223372036854775808
  · subst hm
    have HM := Lib.hid (newMin_any (w.alloc (.cells #[.bool false, .slice none 0 0] 48)))
    have HB := Lib.hid (show Below w.heap.size w (w.alloc (.cells #[.bool false, .slice none 0 0] 48)) from (Below.refl _ _).alloc (Nat.le_refl _) _)
    clear h1 h2
    go_enter Tryz.func29, Tryz.ntmps29
    go_wp2_with fail
    refine HM.out.mono ?_
    rintro e w2 ⟨g, neg, s, L, rfl, hb2, hin, hge, hob⟩
    have hnew := (NewBig.new w).below hb2
    have hsz := hb2.size
    rw [World.size_alloc] at hge hob hsz
    have HN := Lib.hid (neg_in w2 g w.heap.size neg s L _ hin (by decide) hnew (by omega) (fun h b hb => by have := hob h b hb; omega))
    have HB2 := Lib.hid (HB.out.trans (hb2.mono (by simp)))
    clear hb2 hin hge hob hnew hsz HM
    go_wp2_with fail
    refine HN.out.mono ?_
    rintro e w3 ⟨rfl, hg3, hat3⟩
    have HB3 := Lib.hid (HB2.out.grown hg3 HB2.out.size (fun k hk => by injection hk; omega))
    have HA3 := Lib.hid hat3
    clear hg3 hat3 HN
    go_wp2_with fail
    go_ret
    exact ⟨_, rfl, HB3.out, Or.inr ⟨_, rfl, HA3.out⟩⟩
  · have hne : (z == -9223372036854775808) = false := by rw [beq_eq_false_iff_ne]; exact hm
    have h3 : InI64 (-z) := ⟨by omega, by omega⟩
    have hw : IntKind.i64.wrap (-z) = -z := IntWalk.i64_in _ (by unfold InI64 at h3; omega)
    have H3 := Lib.hid h3
    clear h3 hm
    go_enter Tryz.func29, Tryz.ntmps29
    go_wp2_with fail
    go_ret
    exact ⟨_, rfl, Below.refl _ _, Or.inl ⟨rfl, H3.out⟩⟩

set_option maxRecDepth 100000 in
set_option maxHeartbeats 1000000 in
theorem funcOpNegate_any (w : World) (x : Value) (z : Int) (h : GoNum w x z) : Calls Tryz.prog 24 #[x] w (AnyPost (-z) w) := by
  rcases h with ⟨rfl, hz⟩ | ⟨v, rfl, hz, hat⟩
  · have HN := Lib.hid (negate_any w z hz)
    clear hz
    go_enter Tryz.func24, Tryz.ntmps24
    go_wp2_with (go_at_call 29; refine HN.out.mono ?_; rintro e w2 ⟨y, rfl, hb2, hy⟩)
    go_ret
    exact ⟨_, rfl, hb2, hy⟩
  · have HN := Lib.hid (neg_any _ w.heap.size w.heap.size v z (hat.below ((Below.refl _ w).alloc (Nat.le_refl _) (.cells #[.bool false, .slice none 0 0] 48))) (by rintro rfl; exact hz ⟨by decide, by decide⟩) (NewBig.new w) (Nat.le_refl _))
    have HB := Lib.hid (show Below w.heap.size w (w.alloc (.cells #[.bool false, .slice none 0 0] 48)) from (Below.refl _ _).alloc (Nat.le_refl _) _)
    clear hz
    obtain ⟨g, neg, s, L, rfl, hat⟩ := hat
    clear hat
    go_enter Tryz.func24, Tryz.ntmps24
    go_wp2_with fail
    refine HN.out.mono ?_
    rintro e w3 ⟨rfl, hg3, hat3⟩
    have HB3 := Lib.hid (HB.out.grown hg3 (by simp) (fun k hk => by injection hk; omega))
    have HA3 := Lib.hid hat3
    clear hg3 hat3 HN
    go_wp2_with fail
    go_ret
    exact ⟨_, rfl, HB3.out, Or.inr ⟨_, rfl, HA3.out⟩⟩

set_option maxRecDepth 100000 in
set_option maxHeartbeats 1000000 in
theorem funcAbs_any (w : World) (x : Value) (z : Int) (h : GoNum w x z) : Calls Tryz.prog 25 #[x] w (AnyPost (z.natAbs : Int) w) := by
  rcases h with ⟨rfl, hz⟩ | ⟨v, rfl, hz, hat⟩
  · by_cases h0 : 0 ≤ z
    · have H3 := Lib.hid hz
      have HE : Hid ((z.natAbs : Int) = z) := Lib.hid (by omega)
      clear hz
      go_enter Tryz.func25, Tryz.ntmps25
      go_wp2_with fail
      go_ret
      exact ⟨.iface 3 (.int .i64 z), rfl, Below.refl _ _, Or.inl ⟨by rw [HE.out], by rw [HE.out]; exact H3.out⟩⟩
    · have HN := Lib.hid (negate_any w z hz)
      have HE : Hid (-z = (z.natAbs : Int)) := Lib.hid (by omega)
      clear hz
      go_enter Tryz.func25, Tryz.ntmps25
      go_wp2_with (go_at_call 29; refine HN.out.mono ?_; rintro e w2 ⟨y, rfl, hb2, hy⟩)
      go_ret
      exact ⟨_, rfl, hb2, by rw [← HE.out]; exact hy⟩
  · have hs := sign_any w _ _ _ hat
    have HS := Lib.hid hs
    have HAT := Lib.hid hat
    have HN := Lib.hid (abs_any _ w.heap.size w.heap.size v z (hat.below ((Below.refl _ w).alloc (Nat.le_refl _) (.cells #[.bool false, .slice none 0 0] 48))) (NewBig.new w) (Nat.le_refl _))
    have HB := Lib.hid (show Below w.heap.size w (w.alloc (.cells #[.bool false, .slice none 0 0] 48)) from (Below.refl _ _).alloc (Nat.le_refl _) _)
    clear hz hs
    obtain ⟨g, neg, s, L, rfl, hat⟩ := hat
    clear hat
    go_enter Tryz.func25, Tryz.ntmps25
    go_wp2_with fail
    refine HS.out.mono ?_
    rintro e w2 ⟨y, rfl, rfl, hy⟩
    by_cases hy0 : 0 ≤ y
    · have HE : Hid ((z.natAbs : Int) = z) := Lib.hid (by have := hy.1 hy0; omega)
      clear hy
      go_wp2_with fail
      go_ret
      exact ⟨_, rfl, Below.refl _ _, Or.inr ⟨_, rfl, by rw [HE.out]; exact HAT.out⟩⟩
    · clear hy
      go_wp2_with fail
      refine HN.out.mono ?_
      rintro e w3 ⟨rfl, hg3, hat3⟩
      have HB3 := Lib.hid (HB.out.grown hg3 (by simp) (fun k hk => by injection hk; omega))
      have HA3 := Lib.hid hat3
      clear hg3 hat3 HN
      go_wp2_with fail
      go_ret
      exact ⟨_, rfl, HB3.out, Or.inr ⟨_, rfl, HA3.out⟩⟩

theorem zzNegate_any (w : World) (x : Value) (z : Int) (h : GoNum w x z) : Calls Tryz.prog 17 #[x] w (AnyPost (-z) w) := by
  have HN := Lib.hid (funcOpNegate_any w x z h)
  clear h
  go_enter Tryz.func17, Tryz.ntmps17
  go_wp2_with (go_at_call 24; refine HN.out.mono ?_; rintro e w2 ⟨y, rfl, hb2, hy⟩)
  go_ret
  exact ⟨_, rfl, hb2, hy⟩
theorem zzAbs_any (w : World) (x : Value) (z : Int) (h : GoNum w x z) : Calls Tryz.prog 18 #[x] w (AnyPost (z.natAbs : Int) w) := by
  have HN := Lib.hid (funcAbs_any w x z h)
  clear h
  go_enter Tryz.func18, Tryz.ntmps18
  go_wp2_with (go_at_call 25; refine HN.out.mono ?_; rintro e w2 ⟨y, rfl, hb2, hy⟩)
  go_ret
  exact ⟨_, rfl, hb2, hy⟩
end Go.Proofs.YtejmjkeeakfodaaGreatDoor
