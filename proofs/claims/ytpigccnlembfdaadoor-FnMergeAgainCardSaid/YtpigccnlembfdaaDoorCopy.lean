/- The walk of maps.Copy into a map of the caller's own that is empty. Conditions: as the theorem states. -/
import Derived.Test.YtpigccnlembfdaaDoorOwnMap
import Derived.WalkKit
import Derived.Maps.Ext
import Derived.Laws.IdiomRangeMap
namespace Go.Proofs.YtpigccnlembfdaaDoor
open Go.RowKit Go.Maps

theorem str_inj {a b : ByteArray} (h : a.data.toList = b.data.toList) : a = b := by
  cases a; cases b; simpa using h
theorem grown_set_block (w : World) (b : Nat) (o : Obj) : w.grownBy (Go.ChangeMaps.setBlock w b o) (some b) :=
  ⟨rfl, rfl, rfl, by simp [Go.ChangeMaps.setBlock], fun k _ hne => by
    have : b ≠ k := by rintro rfl; exact hne rfl
    simp [Go.ChangeMaps.setBlock, this]⟩
/-- What stands under a key of a datum, as the step of a range tells it. -/
theorem mapOf_at {D : DataW Value} {s : ByteArray} {c : Value} {y : DataW Value × List MemPlace} (hv : heldR c = some y) (hat : ∀ zd, D.atKey (.string s.data.toList) zd = y.1) : mapOf D s = some c := by
  unfold heldR at hv
  cases hv
  unfold mapOf
  rw [hat]

set_option maxRecDepth 100000 in
set_option maxHeartbeats 1000000 in
theorem copy_any (w : World) (bd bs n : Nat) (m : ByteArray → Option Value) (hd : MapIs w bd 0 (fun _ => none)) (hs : MapIs w bs n m) (hne : bd ≠ bs) (hn : n ≤ maxLen) :
    Calls Tryd.prog 40 #[.map (some bd), .map (some bs)] w fun e w' => e = .returned (.tuple #[]) ∧ (∃ n', MapIs w' bd n' m) ∧ w.grownBy w' (some bd) := by
  have K := string_keyed Tryd.underlying9
  obtain ⟨D, hown, hsz, rfl⟩ := hs.own Tryd.underlying9 hn
  have hbd := hd.lt
  have hbs := hown.lt
  have hz : w.grownBy w none := World.grownBy.refl w none
  go_enter Tryd.func40, Tryd.ntmps40
  go_wp2_with (first
    | (at_range; refine wpList_range_own _ rfl _ 42 rfl 9 20 K Tryd.underlying42 heldR bs n D rfl hown ?_; intro w0 hrg0 hg0 hs0)
    | go_in)
  go_frame
  go_loopw [8] (fun _ wr => ∃ (left : Lit → Bool) (cnt n' : Nat) (m' : ByteArray → Option Value), wr.ranges Tryd.prog 9 heldR bs w.heap.size n D left cnt ∧ MapIs wr bd n' m' ∧
      (∀ s, m' s = if left (.string s.data.toList) then none else mapOf D s) ∧ w.grownBy wr (some bd))
    (fun _ wr => wr.rangeLeft bs w.heap.size)
  case atStart =>
    refine ⟨_, _, 0, fun _ => none, hrg0, hd.of_block (hg0.block bd hbd (by simp)), fun s => ?_, ⟨hg0.os, hg0.tape, hg0.output, hg0.size, fun i hi _ => hg0.block i hi (by simp)⟩⟩
    cases hh : Maps.has D (.string s.data.toList) with
    | true => rw [if_pos rfl]
    | false => rw [if_neg (by decide)]; unfold mapOf; rw [atKey_of_not_has hh]
  case round =>
    obtain ⟨left, cnt, n', m', hrg, hm, hML, hgw⟩ := hrel
    go_wp2_with (first
      | (at_next; refine wpList_next_ranges _ rfl _ rfl 9 K heldR Value.string id (fun key kl h => by obtain ⟨s, e, _⟩ := key_inv Tryd.underlying9 h; exact ⟨s, e⟩) (fun v _ _ => ⟨v, rfl⟩) bs w.heap.size n D _ _ rfl hrg ?_ ?_)
      | go_in)
    · intro hc0 hl0
      go_wp2_with fail
      go_end0
      have e : m' = mapOf D := by funext s; rw [hML s, hl0]; rfl
      exact ⟨rfl, ⟨n', e ▸ hm⟩, hgw⟩
    · intro x c kl yd yp w1 cnt1 hkey hlx hv hat hrg1 hlt hg1 hs1 hen
      obtain ⟨s', e1, e2⟩ := key_inv Tryd.underlying9 hkey
      cases e1
      rw [keyOf_str Tryd.underlying9 e2] at hkey
      cases hkey
      have hc := mapOf_at hv hat
      have hm1 : MapIs w1 bd n' m' := hm.of_block (hg1.block bd hm.lt (by simp; omega))
      obtain ⟨o, hput, hm2⟩ := hm1.put Tryd.underlying42 Tryd.underlying9 e2 c
      have hg2 := grown_set_block w1 bd o
      have hrg2 := hrg1.kept hg2 (fun e => hne (Option.some.inj e).symm) (fun e => by have := Option.some.inj e; omega)
      have HP := Lib.hid (And.intro hm2 (And.intro hrg2 (And.intro hg2 hc)))
      clear hm2 hrg2 hg2 hc
      go_wp2_with fail
      go_roundw
      case rel =>
        obtain ⟨hm2, hrg2, hg2, hc⟩ := HP.out
        refine ⟨_, cnt1, _, _, hrg2, hm2, fun s => ?_, (hgw.andThen hg1 (fun j hj => .inl (by cases hj; exact Nat.le_refl _))).andThen hg2 (fun j hj => .inr hj)⟩
        by_cases e : s = x
        · subst e
          rw [if_pos rfl, WideAt.sameKey_self (by trivial)]
          simp [hc]
        · rw [if_neg e, hML s, sameKey_ne (fun h => e (str_inj (by injection h)))]
          simp
      case measure =>
        obtain ⟨hm2, hrg2, hg2, hc⟩ := HP.out
        rw [hrg2.left_eq, hrg.left_eq]; exact hlt
end Go.Proofs.YtpigccnlembfdaaDoor
