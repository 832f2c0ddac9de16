/- The walks of toboolean, of what a door hands back, and of the law FnToBoolean's own helpers. Conditions: as each theorem states. -/
import Derived.Test.YtpigccnlembfdaaDoorGo
import Derived.Test.YtpigccnlembfdaaDoorAssert
import Derived.Laws.ResultCell
import Derived.WalkSmall
namespace Go.Proofs.YtpigccnlembfdaaDoor
open Go.RowKit

/-- The six cells of a value that is of a kind and holds nothing else. -/
def plain (k : Int) : List Value := [.int .i64 k, .int .i64 0, .string ⟨#[]⟩, .slice none 0 0, .slice none 0 0, .slice none 0 0]
/-- The answer of a door. -/
def res (c : List Value) (e : Int) : Value := .agg (c ++ [Value.int .i64 e]).toArray

def Same0 (w : World) (v : Value) (e : Ending) (w' : World) : Prop := e = .returned v ∧ Below w.heap.size w w'

set_option maxHeartbeats 400000 in
theorem cmp_plain (w : World) (k : Int) (hk0 : 0 ≤ k) (hk : k ≤ 2) (h1 h2 : Int) (t1 t2 : ByteArray) (a1 a2 b1 b2 c1 c2 : Value) :
    Calls Tryd.prog 27 #[.agg #[.int .i64 k, .int .i64 h1, .string t1, a1, b1, c1], .agg #[.int .i64 k, .int .i64 h2, .string t2, a2, b2, c2]] w (Same0 w (.int .i64 0)) := by
  go_enter Tryd.func27, Tryd.ntmps27
  go_wp2_with fail
  go_ret
  exact ⟨rfl, ((Below.refl _ _).alloc (Nat.le_refl _) _).alloc (by simp) _⟩

set_option maxHeartbeats 400000 in
theorem same_plain (w : World) (k : Int) (hk0 : 0 ≤ k) (hk : k ≤ 2) (h1 h2 : Int) (t1 t2 : ByteArray) (a1 a2 b1 b2 c1 c2 : Value) :
    Calls Tryd.prog 19 #[.agg #[.int .i64 k, .int .i64 h1, .string t1, a1, b1, c1], .agg #[.int .i64 k, .int .i64 h2, .string t2, a2, b2, c2]] w (Same0 w (.bool true)) := by
  go_enter Tryd.func19, Tryd.ntmps19
  go_wp2_with (go_at_call 27; refine (cmp_plain _ _ hk0 hk _ _ _ _ _ _ _ _ _ _).mono ?_; rintro e w' ⟨rfl, hb⟩)
  go_ret
  exact ⟨rfl, (((Below.refl _ _).alloc (Nat.le_refl _) _).alloc (by simp) _).trans (hb.mono (by simp; omega))⟩

theorem below2 (w : World) (o1 o2 : Obj) : Below w.heap.size w ((w.alloc o1).alloc o2) := ((Below.refl _ _).alloc (Nat.le_refl _) _).alloc (by simp) _
theorem below1 (w : World) (o1 : Obj) : Below w.heap.size w (w.alloc o1) := (Below.refl _ _).alloc (Nat.le_refl _) _

set_option maxHeartbeats 400000 in
/-- says: the answer is a plain one of kind k, and so is the value. -/
theorem says_plain (w : World) (k : Int) (hk0 : 0 ≤ k) (hk : k ≤ 2) (h2 : Int) (t2 : ByteArray) (a2 b2 c2 : Value) :
    Calls Tryd.prog 8 #[.agg #[.int .i64 k, .int .i64 0, .string ⟨#[]⟩, .slice none 0 0, .slice none 0 0, .slice none 0 0, .int .i64 0], .agg #[.int .i64 k, .int .i64 h2, .string t2, a2, b2, c2]] w (Same0 w (.bool true)) := by
  go_enter Tryd.func8, Tryd.ntmps8
  go_wp2_with (go_at_call 19; refine (same_plain _ _ hk0 hk _ _ _ _ _ _ _ _ _ _).mono ?_; rintro e w' ⟨rfl, hb⟩)
  go_ret
  exact ⟨rfl, (below2 _ _ _).trans (hb.mono (by simp; omega))⟩

set_option maxHeartbeats 400000 in
/-- wrong: the answer is an error with the zero value. -/
theorem wrong_err (w : World) :
    Calls Tryd.prog 10 #[.agg #[.int .i64 0, .int .i64 0, .string ⟨#[]⟩, .slice none 0 0, .slice none 0 0, .slice none 0 0, .int .i64 1]] w (Same0 w (.bool true)) := by
  go_enter Tryd.func10, Tryd.ntmps10
  go_wp2_with (go_at_call 19; refine (same_plain _ 0 (by decide) (by decide) _ _ _ _ _ _ _ _ _ _).mono ?_; rintro e w' ⟨rfl, hb⟩)
  go_ret
  exact ⟨rfl, (below1 _ _).trans (hb.mono (by simp))⟩

set_option maxHeartbeats 400000 in
/-- spec.Bool -/
theorem specBool_any (w : World) (b : Bool) :
    Calls Tryd.prog 9 #[.bool b] w (Same0 w (.agg #[.int .i64 (if b then 2 else 1), .int .i64 0, .string ⟨#[]⟩, .slice none 0 0, .slice none 0 0, .slice none 0 0])) := by
  cases b
  · go_enter Tryd.func9, Tryd.ntmps9
    go_wp2_with fail
    refine bodyPost_ret (v := .agg #[.int .i64 1, .int .i64 0, .string ⟨#[]⟩, .slice none 0 0, .slice none 0 0, .slice none 0 0]) (by simp [results, Tryd.results9, go_sem]) rfl ⟨rfl, below1 _ _⟩
  · go_enter Tryd.func9, Tryd.ntmps9
    go_wp2_with fail
    refine bodyPost_ret (v := .agg #[.int .i64 2, .int .i64 0, .string ⟨#[]⟩, .slice none 0 0, .slice none 0 0, .slice none 0 0]) (by simp [results, Tryd.results9, go_sem]) rfl ⟨rfl, below1 _ _⟩

/-- What toboolean makes of a value. -/
def boolOf : J → Option Bool
  | .bool b => some b
  | .str s => if s.toList = [116, 114, 117, 101] then some true else if s.toList = [102, 97, 108, 115, 101] then some false else none
  | _ => none
/-- .. as the program has it: a boolean, or an error. -/
def BoolPost (o : Option Bool) (w : World) (e : Ending) (w' : World) : Prop :=
  Below w.heap.size w w' ∧ ∃ x, e = .returned x ∧ match o with
    | some b => x = .iface 4 (.bool b)
    | none => ∃ a, x = .iface 68 (.pointer (some a)) ∨ x = .iface 72 (.pointer (some a))

set_option maxRecDepth 100000 in
set_option maxHeartbeats 1000000 in
theorem toBool_any (w : World) (S : Nat → Prop) (j : J) (x : Value) (h : Rep w S j x) :
    Calls Tryd.prog 18 #[x] w (BoolPost (boolOf j) w) := by
  cases j with
  | bool b =>
    unfold Rep at h; subst h
    go_enter Tryd.func18, Tryd.ntmps18
    go_wp2
    go_ret
    exact ⟨Below.refl _ _, _, rfl, rfl⟩
  | str s =>
    unfold Rep at h; obtain ⟨rfl, _⟩ := h
    by_cases h1 : s.toList = [116, 114, 117, 101]
    · have e1 : (s.toList == [116, 114, 117, 101]) = true := by simp [h1]
      have eb : boolOf (.str s) = some true := by simp [boolOf, h1]
      rw [eb]
      clear h1 eb
      go_enter Tryd.func18, Tryd.ntmps18
      go_wp2
      go_ret
      exact ⟨Below.refl _ _, _, rfl, rfl⟩
    · by_cases h2 : s.toList = [102, 97, 108, 115, 101]
      · have e1 : (s.toList == [116, 114, 117, 101]) = false := by simp [h1]
        have e2 : (s.toList == [102, 97, 108, 115, 101]) = true := by simp [h2]
        have eb : boolOf (.str s) = some false := by simp [boolOf, h2]
        rw [eb]
        clear h1 h2 eb
        go_enter Tryd.func18, Tryd.ntmps18
        go_wp2
        go_ret
        exact ⟨Below.refl _ _, _, rfl, rfl⟩
      · have e1 : (s.toList == [116, 114, 117, 101]) = false := by simp [h1]
        have e2 : (s.toList == [102, 97, 108, 115, 101]) = false := by simp [h2]
        have eb : boolOf (.str s) = none := by simp [boolOf, h1, h2]
        rw [eb]
        clear h1 h2 eb
        go_enter Tryd.func18, Tryd.ntmps18
        go_wp2
        go_ret
        exact ⟨below2 _ _ _, _, rfl, _, Or.inl rfl⟩
  | null =>
    unfold Rep at h; subst h
    go_enter Tryd.func18, Tryd.ntmps18
    go_wp2
    go_ret
    exact ⟨below1 _ _, _, rfl, _, Or.inr rfl⟩
  | int n =>
    unfold Rep at h; obtain ⟨rfl, _⟩ := h
    go_enter Tryd.func18, Tryd.ntmps18
    go_wp2
    go_ret
    exact ⟨below1 _ _, _, rfl, _, Or.inr rfl⟩
  | flt n =>
    unfold Rep at h; subst h
    go_enter Tryd.func18, Tryd.ntmps18
    go_wp2
    go_ret
    exact ⟨below1 _ _, _, rfl, _, Or.inr rfl⟩
  | list l =>
    unfold Rep at h; obtain ⟨A, c, us, rfl, _⟩ := h
    go_enter Tryd.func18, Tryd.ntmps18
    go_wp2
    go_ret
    exact ⟨below1 _ _, _, rfl, _, Or.inr rfl⟩
  | map ks vs =>
    unfold Rep at h; obtain ⟨b, m, us, rfl, _⟩ := h
    go_enter Tryd.func18, Tryd.ntmps18
    go_wp2
    go_ret
    exact ⟨below1 _ _, _, rfl, _, Or.inr rfl⟩
end Go.Proofs.YtpigccnlembfdaaDoor
