/- The JSON values that the program's own values represent, and what it means that one lies in memory. Conditions: none. -/
import Derived.Test.YtpigccnlembfdaaGreatDoorMap
namespace Go.Proofs.YtpigccnlembfdaaGreatDoor
open Go.RowKit

/-- A JSON value: numbers are integers, or floats by their bits; maps by their keys, rising, and their values. -/
inductive J where
  | null
  | bool (b : Bool)
  | int (n : Int)
  | flt (bits : Nat)
  | str (s : ByteArray)
  | list (l : List J)
  | map (ks : List ByteArray) (vs : List J)

/-- The keys rise. -/
def Rising (ks : List ByteArray) : Prop := ∀ (i : Nat) (s s' : ByteArray), ks[i]? = some s → ks[i + 1]? = some s' → Op.bytesLess s.toList s'.toList = true

theorem bl_irrefl : ∀ x : List UInt8, Op.bytesLess x x = false
  | [] => rfl
  | a :: x => by simp [Op.bytesLess, bl_irrefl x]
theorem bl_trans : ∀ x y z : List UInt8, Op.bytesLess x y = true → Op.bytesLess y z = true → Op.bytesLess x z = true
  | _, _, [], _, h => by simp [Op.bytesLess] at h
  | [], _, _ :: _, _, _ => rfl
  | _ :: _, [], _ :: _, h, _ => by simp [Op.bytesLess] at h
  | a :: x, b :: y, c :: z, h1, h2 => by
    simp only [Op.bytesLess, Bool.or_eq_true, decide_eq_true_eq, Bool.and_eq_true, beq_iff_eq, UInt8.lt_iff_toNat_lt] at h1 h2 ⊢
    rcases h1 with h1 | ⟨rfl, h1⟩
    · rcases h2 with h2 | ⟨rfl, h2⟩
      · left; omega
      · left; exact h1
    · rcases h2 with h2 | ⟨rfl, h2⟩
      · left; exact h2
      · right; exact ⟨rfl, bl_trans x y z h1 h2⟩
/-- A key that stands behind another is greater. -/
theorem Rising.lt {ks : List ByteArray} (h : Rising ks) : ∀ (d i : Nat) (s s' : ByteArray), ks[i]? = some s → ks[i + d + 1]? = some s' → Op.bytesLess s.toList s'.toList = true
  | 0, i, s, s', h1, h2 => h i s s' h1 h2
  | d + 1, i, s, s', h1, h2 => by
    have hl : i + d + 1 < ks.length := by have := (List.getElem?_eq_some_iff.1 h2).1; omega
    have hm : ks[i + d + 1]? = some ks[i + d + 1] := List.getElem?_eq_getElem hl
    exact bl_trans _ _ _ (h.lt d i s _ h1 hm) (h (i + d + 1) _ s' hm h2)
theorem Rising.inj {ks : List ByteArray} (h : Rising ks) {i j : Nat} {s : ByteArray} (hi : ks[i]? = some s) (hj : ks[j]? = some s) : i = j := by
  rcases Nat.lt_trichotomy i j with h1 | h1 | h1
  · have := h.lt (j - i - 1) i s s hi (by rw [show i + (j - i - 1) + 1 = j by omega]; exact hj)
    rw [bl_irrefl] at this; cases this
  · exact h1
  · have := h.lt (i - j - 1) j s s hj (by rw [show j + (i - j - 1) + 1 = i by omega]; exact hi)
    rw [bl_irrefl] at this; cases this

mutual
/-- The Go value x represents the JSON value in the world w; it goes through blocks of S alone. -/
def Rep (w : World) (S : Nat → Prop) : J → Value → Prop
  | .null, x => x = .nilIface
  | .bool b, x => x = .iface 4 (.bool b)
  | .int n, x => x = .iface 3 (.int .i64 n) ∧ -9223372036854775808 ≤ n ∧ n ≤ 9223372036854775807
  | .flt bits, x => x = .iface 65 (.float .f64 bits)
  | .str s, x => x = .iface 9 (.string s) ∧ s.size ≤ 140737488351232
  | .list l, x => ∃ A c us, x = .iface 66 (.slice A l.length c) ∧ l.length ≤ c ∧ c ≤ 140737488351232 ∧ RepAll w S l us ∧
      (us ≠ [] → ∃ ad, A = some ad ∧ S ad.block ∧ ad.block < w.heap.size ∧ ∀ (i : Nat) (u : Value), us[i]? = some u → w.cell? (ad.add i) = some u)
  | .map ks vs, x => ∃ b m us, x = .iface 69 (.map (some b)) ∧ S b ∧ MapIs w b ks.length m ∧ RepAll w S vs us ∧ ks.length = vs.length ∧ Rising ks ∧ (∀ s ∈ ks, s.size ≤ 140737488351232) ∧
      ∀ (s : ByteArray) (v : Value), m s = some v ↔ ∃ i : Nat, ks[i]? = some s ∧ us[i]? = some v
def RepAll (w : World) (S : Nat → Prop) : List J → List Value → Prop
  | [], us => us = []
  | j :: r, us => ∃ u us', us = u :: us' ∧ Rep w S j u ∧ RepAll w S r us'
end

theorem RepAll.length {w : World} {S : Nat → Prop} : ∀ {l : List J} {us : List Value}, RepAll w S l us → us.length = l.length
  | [], us, h => by unfold RepAll at h; subst h; rfl
  | j :: r, us, h => by unfold RepAll at h; obtain ⟨u, us', rfl, _, h⟩ := h; simp [RepAll.length h]
theorem RepAll.at_ {w : World} {S : Nat → Prop} : ∀ {l : List J} {us : List Value}, RepAll w S l us → ∀ {i : Nat} {j : J} {u : Value}, l[i]? = some j → us[i]? = some u → Rep w S j u
  | [], us, _, i, j, u, h, _ => by simp at h
  | j :: r, us, h, i, j', u', hj, hu => by
    unfold RepAll at h
    obtain ⟨u, us', rfl, h1, h2⟩ := h
    cases i with
    | zero => simp at hj hu; subst hj; subst hu; exact h1
    | succ i => exact RepAll.at_ h2 (by simpa using hj) (by simpa using hu)
theorem RepAll.snoc {w : World} {S : Nat → Prop} : ∀ {l : List J} {us : List Value} {j : J} {u : Value}, RepAll w S l us → Rep w S j u → RepAll w S (l ++ [j]) (us ++ [u])
  | [], us, j, u, h, h1 => by unfold RepAll at h; subst h; simp only [List.nil_append]; unfold RepAll; exact ⟨u, [], rfl, h1, by unfold RepAll; rfl⟩
  | j0 :: r, us, j, u, h, h1 => by
    unfold RepAll at h
    obtain ⟨u0, us', rfl, h2, h3⟩ := h
    simp only [List.cons_append]
    unfold RepAll
    exact ⟨u0, _, rfl, h2, RepAll.snoc h3 h1⟩
theorem repAll_nil (w : World) (S : Nat → Prop) : RepAll w S [] [] := by unfold RepAll; rfl

theorem cell_lt {w : World} {a : Addr} {v : Value} (h : w.cell? a = some v) : a.block < w.heap.size := World.block_lt_of_cell? w a h

/-- A value that represents something is an interface value. -/
theorem Rep.shape {w : World} {S : Nat → Prop} : ∀ {j : J} {x : Value}, Rep w S j x → x = .nilIface ∨ ∃ u v, x = .iface u v
  | .null, x, h => by unfold Rep at h; exact Or.inl h
  | .bool b, x, h => by unfold Rep at h; exact Or.inr ⟨_, _, h⟩
  | .int n, x, h => by unfold Rep at h; exact Or.inr ⟨_, _, h.1⟩
  | .flt n, x, h => by unfold Rep at h; exact Or.inr ⟨_, _, h⟩
  | .str n, x, h => by unfold Rep at h; exact Or.inr ⟨_, _, h.1⟩
  | .list l, x, h => by unfold Rep at h; obtain ⟨A, c, us, hx, _⟩ := h; exact Or.inr ⟨_, _, hx⟩
  | .map ks vs, x, h => by unfold Rep at h; obtain ⟨b, m, us, hx, _⟩ := h; exact Or.inr ⟨_, _, hx⟩

mutual
/-- What is represented lasts while the blocks of S are as they were. -/
theorem Rep.keep {w w' : World} {S S' : Nat → Prop} (hS : ∀ b, S b → S' b) (hk : ∀ b, S b → b < w.heap.size → w'.heap[b]? = w.heap[b]?) (hsz : w.heap.size ≤ w'.heap.size) : ∀ {j : J} {x : Value}, Rep w S j x → Rep w' S' j x
  | .null, x, h => by unfold Rep at h ⊢; exact h
  | .bool b, x, h => by unfold Rep at h ⊢; exact h
  | .int n, x, h => by unfold Rep at h ⊢; exact h
  | .flt n, x, h => by unfold Rep at h ⊢; exact h
  | .str n, x, h => by unfold Rep at h ⊢; exact h
  | .list l, x, h => by
    unfold Rep at h ⊢
    obtain ⟨A, c, us, hx, h1, h2, h3, h4⟩ := h
    refine ⟨A, c, us, hx, h1, h2, RepAll.keep hS hk hsz h3, fun hn => ?_⟩
    obtain ⟨ad, e, hs, hlt, hc⟩ := h4 hn
    exact ⟨ad, e, hS _ hs, by omega, fun i u hu => (World.cell?_of_block (by rw [block_of_add]; exact hk _ hs hlt)).trans (hc i u hu)⟩
  | .map ks vs, x, h => by
    unfold Rep at h ⊢
    obtain ⟨b, m, us, hx, h1, h2, h3, h4, h5, h6, h7⟩ := h
    exact ⟨b, m, us, hx, hS _ h1, h2.of_block (hk _ h1 h2.lt), RepAll.keep hS hk hsz h3, h4, h5, h6, h7⟩
theorem RepAll.keep {w w' : World} {S S' : Nat → Prop} (hS : ∀ b, S b → S' b) (hk : ∀ b, S b → b < w.heap.size → w'.heap[b]? = w.heap[b]?) (hsz : w.heap.size ≤ w'.heap.size) : ∀ {l : List J} {us : List Value}, RepAll w S l us → RepAll w' S' l us
  | [], us, h => by unfold RepAll at h ⊢; exact h
  | j :: r, us, h => by
    unfold RepAll at h ⊢
    obtain ⟨u, us', e, h1, h2⟩ := h
    exact ⟨u, us', e, Rep.keep hS hk hsz h1, RepAll.keep hS hk hsz h2⟩
end
theorem Rep.below {w w' : World} {S : Nat → Prop} {j : J} {x : Value} (h : Rep w S j x) (hb : Below w.heap.size w w') : Rep w' S j x := h.keep (fun _ h => h) (fun b _ hlt => hb.block b hlt) hb.size
theorem RepAll.below {w w' : World} {S : Nat → Prop} {j : List J} {x : List Value} (h : RepAll w S j x) (hb : Below w.heap.size w w') : RepAll w' S j x := h.keep (fun _ h => h) (fun b _ hlt => hb.block b hlt) hb.size
/-- .. and while a block that is none of S is written. -/
theorem Rep.beside {w w' : World} {S : Nat → Prop} {j : J} {x : Value} {g : Nat} (h : Rep w S j x) (hb : w.grownBy w' (some g)) (hg : ¬ S g) : Rep w' S j x :=
  h.keep (fun _ h => h) (fun b hs hlt => hb.block b hlt (fun e => by injection e with e; exact hg (e ▸ hs))) hb.size
theorem RepAll.beside {w w' : World} {S : Nat → Prop} {j : List J} {x : List Value} {g : Nat} (h : RepAll w S j x) (hb : w.grownBy w' (some g)) (hg : ¬ S g) : RepAll w' S j x :=
  h.keep (fun _ h => h) (fun b hs hlt => hb.block b hlt (fun e => by injection e with e; exact hg (e ▸ hs))) hb.size
theorem Rep.more {w : World} {S S' : Nat → Prop} {j : J} {x : Value} (h : Rep w S j x) (hS : ∀ b, S b → S' b) : Rep w S' j x := h.keep hS (fun _ _ _ => rfl) (Nat.le_refl _)
theorem RepAll.more {w : World} {S S' : Nat → Prop} {j : List J} {x : List Value} (h : RepAll w S j x) (hS : ∀ b, S b → S' b) : RepAll w S' j x := h.keep hS (fun _ _ _ => rfl) (Nat.le_refl _)
end Go.Proofs.YtpigccnlembfdaaGreatDoor
