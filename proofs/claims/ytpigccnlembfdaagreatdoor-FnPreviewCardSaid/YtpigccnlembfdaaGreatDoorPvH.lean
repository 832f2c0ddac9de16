/- Plain laws on texts, maps and JSON texts; sort.Slice at the encoder's keys. Conditions: as each theorem states. -/
import Derived.Test.YtpigccnlembfdaaGreatDoorPvQuo
import Derived.Test.YtpigccnlembfdaaGreatDoorPvG
import Derived.Test.YtpigccnlembfdaaGreatDoorPvA
import Derived.Test.YtpigccnlembfdaaGreatDoorSort
import Derived.Lib.ValidLaws
import Derived.Lib.DecodeNEq
import Derived.Shelf.Unicode.DecodeSlow
import Derived.Maps.RangeWalk
import Derived.Lib.SlMapMerge
import Derived.Deep.QuietTactic
import Derived.BigQuiet

/- The JSON text of a tree, and how long it is. Conditions: none. -/
namespace Go.Proofs.YtpigccnlembfdaaGreatDoor
open Go.RowKit

/-- Texts with commas between them. -/
def commas : List (List UInt8) → List UInt8
  | [] => []
  | [t] => t
  | t :: r => t ++ 44 :: commas r
/-- A key with its value's text. -/
def keyed (s : ByteArray) (t : List UInt8) : List UInt8 := (34 :: (jqs s.data.toList ++ [34])) ++ 58 :: t
mutual
/-- The JSON text of a tree. -/
def V.jsonT : V → List UInt8
  | .mk k h t _ _ l _ _ ks _ _ vs =>
    if k = 0 then [110, 117, 108, 108] else if k = 1 then [102, 97, 108, 115, 101] else if k = 2 then [116, 114, 117, 101]
    else if k = 3 then figs h else if k = 4 then 34 :: (jqs t.data.toList ++ [34])
    else if k = 5 then 91 :: (commas (jsonAll l) ++ [93]) else 123 :: (commas (List.zipWith keyed ks (jsonAll vs)) ++ [125])
def jsonAll : List V → List (List UInt8)
  | [] => []
  | x :: r => x.jsonT :: jsonAll r
end
theorem jsonAll_length : ∀ l : List V, (jsonAll l).length = l.length
  | [] => by simp [jsonAll]
  | x :: r => by simp [jsonAll, jsonAll_length r]
theorem jsonAll_at : ∀ {l : List V} {i : Nat} {x : V}, l[i]? = some x → (jsonAll l)[i]? = some x.jsonT
  | [], i, x, h => by simp at h
  | y :: r, 0, x, h => by simp at h; subst h; simp [jsonAll]
  | y :: r, i + 1, x, h => by simp only [jsonAll, List.getElem?_cons_succ] at h ⊢; exact jsonAll_at h
/-- One text more. -/
theorem commas_snoc : ∀ (l : List (List UInt8)) (t : List UInt8), commas (l ++ [t]) = commas l ++ (if l = [] then [] else [44]) ++ t
  | [], t => by simp [commas]
  | [a], t => by simp [commas]
  | a :: b :: r, t => by
    have := commas_snoc (b :: r) t
    simp only [List.cons_append] at this ⊢
    simp only [commas, this]
    simp
theorem commas_take (l : List (List UInt8)) (k : Nat) (t : List UInt8) (h : l[k]? = some t) : commas (l.take (k + 1)) = commas (l.take k) ++ (if k = 0 then [] else [44]) ++ t := by
  obtain ⟨hl, rfl⟩ := List.getElem?_eq_some_iff.1 h
  have e : l.take (k + 1) = l.take k ++ [l[k]] := by rw [List.take_add_one, List.getElem?_eq_getElem hl]; rfl
  rw [e, commas_snoc]
  have : (l.take k = []) ↔ k = 0 := by
    rw [List.take_eq_nil_iff]
    constructor
    · rintro (h | h)
      · exact h
      · subst h; simp at hl
    · exact Or.inl
  by_cases h0 : k = 0
  · rw [if_pos (this.2 h0), if_pos h0]
  · rw [if_neg (fun e => h0 (this.1 e)), if_neg h0]
theorem commas_prefix (l : List (List UInt8)) : ∀ k, ∃ r, commas l = commas (l.take k) ++ r := by
  intro k
  by_cases hk : l.length ≤ k
  · exact ⟨[], by rw [List.take_of_length_le hk]; simp⟩
  · obtain ⟨d, hd⟩ : ∃ d, l.length = k + d := ⟨l.length - k, by omega⟩
    have gen : ∀ d k, l.length = k + d → ∃ r, commas l = commas (l.take k) ++ r := by
      intro d
      induction d with
      | zero => intro k hk; exact ⟨[], by rw [List.take_of_length_le (by omega)]; simp⟩
      | succ d ih =>
        intro k hk
        obtain ⟨r, hr⟩ := ih (k + 1) (by omega)
        have hl : k < l.length := by omega
        rw [commas_take l k _ (List.getElem?_eq_getElem hl)] at hr
        exact ⟨_, by rw [hr, List.append_assoc, List.append_assoc]⟩
    exact gen d k hd
theorem commas_len_take (l : List (List UInt8)) (k : Nat) : (commas (l.take k)).length ≤ (commas l).length := by
  obtain ⟨r, hr⟩ := commas_prefix l k
  rw [hr, List.length_append]; omega
/-- The length of all the texts. -/
def total : List (List UInt8) → Nat
  | [] => 0
  | t :: r => t.length + 1 + total r
theorem commas_len : ∀ l : List (List UInt8), (commas l).length ≤ total l
  | [] => by simp [commas]
  | [t] => by simp [commas, total]
  | t :: b :: r => by
    have := commas_len (b :: r)
    simp only [commas, total, List.length_append, List.length_cons] at this ⊢
    omega
theorem zip_at {α β γ : Type} (f : α → β → γ) : ∀ (a : List α) (b : List β) (i : Nat) (x : α) (y : β), a[i]? = some x → b[i]? = some y → (List.zipWith f a b)[i]? = some (f x y) := by
  intro a b i x y h1 h2
  rw [List.getElem?_zipWith, h1, h2]
end Go.Proofs.YtpigccnlembfdaaGreatDoor

/- Plain laws on a text's bytes: a character of two bytes or more within a right text; what is written as it is. Conditions: none. -/
namespace Go.Proofs.YtpigccnlembfdaaGreatDoor
open Go.RowKit

theorem jq1_high {c : UInt8} (h : 128 ≤ c.toNat) : jq1 c = [c] := by
  have n34 : c ≠ 34 := by rintro rfl; revert h; decide
  have n92 : c ≠ 92 := by rintro rfl; revert h; decide
  have n10 : c ≠ 10 := by rintro rfl; revert h; decide
  have n9 : c ≠ 9 := by rintro rfl; revert h; decide
  have n13 : c ≠ 13 := by rintro rfl; revert h; decide
  have n8 : c ≠ 8 := by rintro rfl; revert h; decide
  have n12 : c ≠ 12 := by rintro rfl; revert h; decide
  have n127 : c ≠ 127 := by rintro rfl; revert h; decide
  have h32 : ¬ c.toNat < 32 := by omega
  unfold jq1
  simp [n34, n92, n10, n9, n13, n8, n12, n127, h32]
theorem jq1_plain {c : UInt8} (h0 : 32 ≤ c.toNat) (h1 : c.toNat ≤ 126) (h34 : c ≠ 34) (h92 : c ≠ 92) : jq1 c = [c] := by
  have n10 : c ≠ 10 := by rintro rfl; revert h0; decide
  have n9 : c ≠ 9 := by rintro rfl; revert h0; decide
  have n13 : c ≠ 13 := by rintro rfl; revert h0; decide
  have n8 : c ≠ 8 := by rintro rfl; revert h0; decide
  have n12 : c ≠ 12 := by rintro rfl; revert h0; decide
  have n127 : c ≠ 127 := by rintro rfl; revert h1; decide
  have h32 : ¬ c.toNat < 32 := by omega
  unfold jq1
  simp [h34, h92, n10, n9, n13, n8, n12, n127, h32]
/-- What stands from a up to k. -/
def mid (l : List UInt8) (a k : Nat) : List UInt8 := (l.drop a).take (k - a)
theorem mid_extract (s : ByteArray) (a k : Nat) : s.extract a k = strL (mid s.data.toList a k) := by
  apply ByteArray.ext
  apply Array.ext'
  simp only [ByteArray.data_extract, Array.toList_extract, List.extract_eq_take_drop]
  rfl
theorem mid_length (l : List UInt8) (a k : Nat) (ha : a ≤ k) (hk : k ≤ l.length) : (mid l a k).length = k - a := by
  unfold mid
  rw [List.length_take, List.length_drop]; omega
theorem take_mid (l : List UInt8) (a k : Nat) (ha : a ≤ k) : l.take k = l.take a ++ mid l a k := by
  unfold mid
  rw [show k = a + (k - a) by omega, List.take_add, show a + (k - a) - a = k - a by omega]
theorem flat_id : ∀ (l : List UInt8), (∀ c ∈ l, jq1 c = [c]) → l.flatMap jq1 = l
  | [], _ => rfl
  | c :: r, h => by rw [List.flatMap_cons, h c (List.mem_cons_self ..), flat_id r (fun d hd => h d (List.mem_cons_of_mem _ hd))]; rfl
/-- What is written as it is. -/
def Plain (l : List UInt8) (a k : Nat) : Prop := ∀ j c, a ≤ j → j < k → l[j]? = some c → jq1 c = [c]
theorem Plain.mem {l : List UInt8} {a k : Nat} (h : Plain l a k) : ∀ c ∈ mid l a k, jq1 c = [c] := fun c hc => by
  unfold mid at hc
  obtain ⟨i, hi, rfl⟩ := List.getElem_of_mem hc
  rw [List.length_take, List.length_drop] at hi
  refine h (a + i) _ (by omega) (by omega) ?_
  rw [List.getElem_take, List.getElem_drop]
  exact List.getElem?_eq_getElem _
theorem Plain.app {l : List UInt8} {a k : Nat} (h : Plain l a k) (ha : a ≤ k) : jqs (l.take k) = jqs (l.take a) ++ mid l a k := by
  rw [take_mid l a k ha]
  simp only [jqs, List.flatMap_append]
  rw [flat_id _ h.mem]
theorem Plain.nil (l : List UInt8) (k : Nat) : Plain l k k := fun j c h1 h2 => by omega
theorem Plain.more {l : List UInt8} {a k k' : Nat} (h : Plain l a k) (h' : ∀ j c, k ≤ j → j < k' → l[j]? = some c → jq1 c = [c]) : Plain l a k' := fun j c h1 h2 h3 => by
  by_cases hj : j < k
  · exact h j c h1 hj h3
  · exact h' j c (by omega) h2 h3
theorem jqs_le (l : List UInt8) (k : Nat) : (jqs (l.take k)).length ≤ (jqs l).length := by
  have : jqs l = jqs (l.take k) ++ jqs (l.drop k) := by
    simp only [jqs, ← List.flatMap_append, List.take_append_drop]
  rw [this, List.length_append]; omega
theorem jq1_pos (c : UInt8) : 1 ≤ (jq1 c).length := by
  unfold jq1
  repeat' split
  all_goals simp
theorem jqs_ge : ∀ l : List UInt8, l.length ≤ (jqs l).length
  | [] => by simp [jqs]
  | c :: r => by
    have h1 := jq1_pos c
    have h2 := jqs_ge r
    simp only [jqs, List.flatMap_cons, List.length_append, List.length_cons] at h2 ⊢
    omega
/-- A character of two bytes or more. -/
theorem rune_step (s : ByteArray) (k : Nat) (c : UInt8) (hc : s.data.toList[k]? = some c) (h128 : 128 ≤ c.toNat) (hv : Lib.validD (s.data.toList.drop k) = true) :
    ∃ r wd : Nat, Lib.decodeGo (s.extract k s.size) = (r, wd) ∧ 2 ≤ wd ∧ k + wd ≤ s.size ∧ Lib.validD (s.data.toList.drop (k + wd)) = true ∧ ∀ j d, k ≤ j → j < k + wd → s.data.toList[j]? = some d → jq1 d = [d] := by
  obtain ⟨hk, hce⟩ := List.getElem?_eq_some_iff.1 hc
  have hsz : s.size = s.data.toList.length := Lib.size_eq s
  have hl : (s.extract k s.size).data.toList = s.data.toList.drop k := by
    rw [mid_extract]
    show mid s.data.toList k s.size = _
    unfold mid
    rw [List.take_of_length_le (by rw [List.length_drop]; omega)]
  have hne : s.data.toList.drop k ≠ [] := fun e => by
    have := congrArg List.length e
    rw [List.length_drop, List.length_nil] at this; omega
  have hz : (s.extract k s.size).size ≠ 0 := by
    rw [Lib.size_eq, hl, List.length_drop]; omega
  have hgo : Lib.decodeGo (s.extract k s.size) = Lib.decodeL (s.data.toList.drop k) := by
    unfold Lib.decodeGo
    rw [if_neg hz, ← Lib.decodeL_drop, List.drop_zero, hl]
  rw [Lib.validD_step _ hne] at hv
  obtain ⟨⟨r, wd⟩, hd⟩ : ∃ p, p = Lib.decodeL (s.data.toList.drop k) := ⟨_, rfl⟩
  rw [← hd] at hv hgo
  have hbad : ¬ (r = 65533 ∧ wd = 1) := fun h => by rw [if_pos h] at hv; cases hv
  rw [if_neg hbad, List.drop_drop] at hv
  rw [Lib.decodeL_N, List.length_drop, Lib.getD_dropU, Lib.getD_dropU, Lib.getD_dropU, Lib.getD_dropU, Nat.add_zero] at hd
  have h0 : s.data.toList.getD k 0 = c := by simp [List.getD, hc]
  rw [h0] at hd
  have hg : ∀ j d, s.data.toList[j]? = some d → s.data.toList.getD j 0 = d := fun j d h => by simp [List.getD, h]
  refine ⟨r, wd, hgo, ?_⟩
  have hi : ∀ j d, s.data.toList[j]? = some d → 128 ≤ (s.data.toList.getD j 0).toNat → jq1 d = [d] := fun j d h1 h2 => jq1_high (by rw [← hg j d h1]; exact h2)
  have hi0 : ∀ d, s.data.toList[k]? = some d → jq1 d = [d] := fun d h => hi k d h (by rw [h0]; exact h128)
  rcases Lib.decodeN_shape (s.data.toList.length - k) c.toNat (s.data.toList.getD (k + 1) 0).toNat (s.data.toList.getD (k + 2) 0).toNat (s.data.toList.getD (k + 3) 0).toNat with ⟨h, _⟩ | ⟨_, hn, h1, _, e⟩ | ⟨_, hn, h1, h2, _, _, e⟩ | ⟨_, hn, h1, h2, h3, _, _, e⟩ | e
  · omega
  · rw [e] at hd
    injection hd with _ hw
    subst hw
    refine ⟨by omega, by omega, hv, fun j d hj1 hj2 hj => ?_⟩
    obtain rfl | rfl : j = k ∨ j = k + 1 := by omega
    · exact hi0 d hj
    · exact hi _ d hj (by omega)
  · rw [e] at hd
    injection hd with _ hw
    subst hw
    refine ⟨by omega, by omega, hv, fun j d hj1 hj2 hj => ?_⟩
    obtain rfl | rfl | rfl : j = k ∨ j = k + 1 ∨ j = k + 2 := by omega
    · exact hi0 d hj
    · exact hi _ d hj (by omega)
    · exact hi _ d hj (by omega)
  · rw [e] at hd
    injection hd with _ hw
    subst hw
    refine ⟨by omega, by omega, hv, fun j d hj1 hj2 hj => ?_⟩
    obtain rfl | rfl | rfl | rfl : j = k ∨ j = k + 1 ∨ j = k + 2 ∨ j = k + 3 := by omega
    · exact hi0 d hj
    · exact hi _ d hj (by omega)
    · exact hi _ d hj (by omega)
    · exact hi _ d hj (by omega)
  · rw [e] at hd
    injection hd with hr hw
    exact absurd ⟨hr, hw⟩ hbad
/-- One byte of a right text that is below 128. -/
theorem valid_next (s : ByteArray) (k : Nat) (c : UInt8) (hc : s.data.toList[k]? = some c) (h128 : c.toNat < 128) (hv : Lib.validD (s.data.toList.drop k) = true) : Lib.validD (s.data.toList.drop (k + 1)) = true := by
  obtain ⟨hk, hce⟩ := List.getElem?_eq_some_iff.1 hc
  rw [List.drop_eq_getElem_cons hk, hce, Lib.validD_cons _ _ h128] at hv
  exact hv
end Go.Proofs.YtpigccnlembfdaaGreatDoor

/- A map with string keys, as the kit's laws on ranges and copies have it, and as a function: the two say the same. Conditions: none. -/
namespace Go.Proofs.YtpigccnlembfdaaGreatDoor
open Go.RowKit Go.Maps Go.MapKept
open Go.WideElems (rd rg rd_key rd_val rg_of)

/-- A value, held as it is. -/
def heldR (v : Value) : Option (DataW Value × List MemPlace) := some (.held v, [])

theorem insert_mem (x y : Lit × DataW Value) : ∀ l : List (Lit × DataW Value), y ∈ DataW.insert x l ↔ y = x ∨ y ∈ l
  | [] => by simp [DataW.insert]
  | z :: r => by
    simp only [DataW.insert]
    split
    · simp
    · simp only [List.mem_cons, insert_mem x y r]
      constructor
      · rintro (h | h | h) <;> simp [h]
      · rintro (h | h | h) <;> simp [h]
theorem insert_length (x : Lit × DataW Value) : ∀ l : List (Lit × DataW Value), (DataW.insert x l).length = l.length + 1
  | [] => rfl
  | z :: r => by
    simp only [DataW.insert]
    split
    · rfl
    · simp [insert_length x r]
theorem fold_mem (y : Lit × DataW Value) : ∀ l : List (Lit × DataW Value), y ∈ l.foldr DataW.insert [] ↔ y ∈ l
  | [] => by simp
  | x :: r => by simp [insert_mem, fold_mem y r]
theorem fold_length : ∀ l : List (Lit × DataW Value), (l.foldr DataW.insert []).length = l.length
  | [] => rfl
  | x :: r => by simp [insert_length, fold_length r]

/-- What a datum of a map gives under a key. -/
def mapOf (D : DataW Value) (s : ByteArray) : Option Value := match D.atKey (.string s.data.toList) .nil with | .held v => some v | _ => none

section
variable {P : Program} {k : TypeId} {w : World} {b n : Nat} {D : DataW Value} {m : ByteArray → Option Value}

theorem key_inv (hk : P.underlying k = some .string) {v : Value} {l : Lit} (h : keyOf P k v = some l) : ∃ s : ByteArray, v = .string s ∧ s.size ≤ maxLen := by
  rw [keyOf_string hk] at h
  unfold mapKey at h
  rw [hk] at h
  cases v <;> simp at h
  exact ⟨_, rfl, h.1⟩
theorem rg_str (hk : P.underlying k = some .string) {x : MapEntry} {s : ByteArray} (e : x.key = .string s) (hs : s.size ≤ maxLen) : rd P k heldR x = some (.string s.data.toList, .held x.val) := by
  simp [rd, e, keyOf_str hk hs, heldR]

theorem find_of {ents : List (Lit × DataW Value)} {key : Lit} (hkey : WideAt.IsKeyLit key) {d : DataW Value} (hm : (key, d) ∈ ents) (hu : ∀ d', (key, d') ∈ ents → d' = d) (z : DataW Value) : (DataW.map ents).atKey key z = d := by
  simp only [DataW.atKey]
  cases hf : ents.find? (fun p => p.1.sameKey key) with
  | none =>
    exfalso
    have := List.find?_eq_none.1 hf _ hm
    simp [WideAt.sameKey_self hkey] at this
  | some p =>
    have h1 := List.find?_some hf
    have h2 := List.mem_of_find?_eq_some hf
    have e : p.1 = key := WideAt.sameKey_eq h1
    obtain ⟨p1, p2⟩ := p
    simp only at e; subst e
    simp only [hu _ h2]
theorem find_none {ents : List (Lit × DataW Value)} {key : Lit} (hm : ∀ d, (key, d) ∉ ents) (z : DataW Value) : (DataW.map ents).atKey key z = z := by
  simp only [DataW.atKey]
  cases hf : ents.find? (fun p => p.1.sameKey key) with
  | none => simp only []
  | some p =>
    have h1 := List.find?_some hf
    have h2 := List.mem_of_find?_eq_some hf
    have e : p.1 = key := WideAt.sameKey_eq h1
    obtain ⟨p1, p2⟩ := p
    simp only at e; subst e
    exact absurd h2 (hm _)

/-- The two ways to say what a map's block holds. -/
theorem own_iff (hk : P.underlying k = some .string) {es : Array MapEntry} {clock : Nat} (hst : Stamped es clock) (hkeys : ∀ x ∈ es.toList, ∃ s : ByteArray, x.key = .string s ∧ s.size ≤ maxLen) (hD : D = .map ((es.toList.map (rg P k heldR)).foldr DataW.insert [])) (s : ByteArray) (v : Value) :
    mapOf D s = some v ↔ ∃ x ∈ es.toList, x.key = .string s ∧ x.val = v := by
  have hmem : ∀ (t : List UInt8) (d : DataW Value), (Lit.string t, d) ∈ (es.toList.map (rg P k heldR)).foldr DataW.insert [] ↔ ∃ x ∈ es.toList, x.key = .string ⟨t.toArray⟩ ∧ d = .held x.val := by
    intro t d
    rw [fold_mem, List.mem_map]
    constructor
    · rintro ⟨x, hx, e⟩
      obtain ⟨s', e1, e2⟩ := hkeys x hx
      rw [rg_of (rg_str hk e1 e2)] at e
      injection e with e3 e4
      injection e3 with e3
      subst e3
      exact ⟨x, hx, by rw [e1], e4.symm⟩
    · rintro ⟨x, hx, e, rfl⟩
      obtain ⟨s', e1, e2⟩ := hkeys x hx
      rw [e1] at e
      injection e with e
      subst e
      exact ⟨x, hx, by rw [rg_of (rg_str hk e1 e2)]⟩
  have hS : (⟨s.data.toList.toArray⟩ : ByteArray) = s := by cases s; simp
  subst hD
  constructor
  · intro h
    unfold mapOf at h
    by_cases he : ∃ x ∈ es.toList, x.key = .string s
    · obtain ⟨x, hx, e⟩ := he
      rw [find_of (by trivial) ((hmem _ _).2 ⟨x, hx, by rw [hS, e], rfl⟩) (fun d' hd' => by
        obtain ⟨y, hy, e1, rfl⟩ := (hmem _ _).1 hd'
        rw [hS] at e1
        rw [one_key hst hy hx (e1.trans e.symm)]) _] at h
      exact ⟨x, hx, e, by simpa using h⟩
    · rw [find_none (fun d hd => by obtain ⟨y, hy, e1, _⟩ := (hmem _ _).1 hd; rw [hS] at e1; exact he ⟨y, hy, e1⟩)] at h
      simp at h
  · rintro ⟨x, hx, e, rfl⟩
    unfold mapOf
    rw [find_of (by trivial) ((hmem _ _).2 ⟨x, hx, by rw [hS, e], rfl⟩) (fun d' hd' => by
      obtain ⟨y, hy, e1, rfl⟩ := (hmem _ _).1 hd'
      rw [hS] at e1
      rw [one_key hst hy hx (e1.trans e.symm)]) _]

theorem MapIs.own (hk : P.underlying k = some .string) (h : MapIs w b n m) (hn : n ≤ maxLen) : ∃ D, w.ownsMap P k heldR b n D ∧ Maps.size D = n ∧ mapOf D = m := by
  obtain ⟨es, clock, hb, hst, hsz, hkeys, hm⟩ := h
  refine ⟨_, ⟨es, clock, hb, ⟨by omega, hst, fun x hx => ?_⟩, by omega, rfl⟩, by simp [Maps.size, fold_length, hsz], ?_⟩
  · obtain ⟨s, e1, e2⟩ := hkeys x hx
    exact ⟨_, rg_str hk e1 e2⟩
  · funext s
    apply Option.ext
    intro v
    exact (own_iff hk hst hkeys rfl s v).trans (hm s v).symm
theorem own_mapIs (hk : P.underlying k = some .string) (h : w.ownsMap P k heldR b n D) : MapIs w b (Maps.size D) (mapOf D) := by
  obtain ⟨es, clock, hb, hF, hsz, hD⟩ := h
  have hkeys : ∀ x ∈ es.toList, ∃ s : ByteArray, x.key = .string s ∧ s.size ≤ maxLen := fun x hx => by
    obtain ⟨y, hy⟩ := hF.reads x hx
    obtain ⟨s, e1, e2⟩ := key_inv hk (rd_key hy)
    exact ⟨s, e1, e2⟩
  exact ⟨es, clock, hb, hF.stamped, by rw [hD]; simp [Maps.size, fold_length], hkeys, fun s v => own_iff hk hF.stamped hkeys hD s v⟩
end
end Go.Proofs.YtpigccnlembfdaaGreatDoor

/- What is represented goes through blocks of the world. Conditions: none. -/
namespace Go.Proofs.YtpigccnlembfdaaGreatDoor
open Go.RowKit

mutual
/-- What is represented goes through blocks of the world. -/
theorem Rep.bounded {w : World} {S : Nat → Prop} : ∀ {j : J} {x : Value}, Rep w S j x → Rep w (fun b => S b ∧ b < w.heap.size) j x
  | .null, x, h => by unfold Rep at h ⊢; exact h
  | .bool b, x, h => by unfold Rep at h ⊢; exact h
  | .int n, x, h => by unfold Rep at h ⊢; exact h
  | .flt n, x, h => by unfold Rep at h ⊢; exact h
  | .str n, x, h => by unfold Rep at h ⊢; exact h
  | .list l, x, h => by
    unfold Rep at h ⊢
    obtain ⟨A, c, us, hx, h1, h2, h3, h4⟩ := h
    refine ⟨A, c, us, hx, h1, h2, RepAll.bounded h3, fun hn => ?_⟩
    obtain ⟨ad, e, hs, hlt, hc⟩ := h4 hn
    exact ⟨ad, e, ⟨hs, hlt⟩, hlt, hc⟩
  | .map ks vs, x, h => by
    unfold Rep at h ⊢
    obtain ⟨b, m, us, hx, h1, h2, h3, h4⟩ := h
    exact ⟨b, m, us, hx, ⟨h1, h2.lt⟩, h2, RepAll.bounded h3, h4⟩
theorem RepAll.bounded {w : World} {S : Nat → Prop} : ∀ {l : List J} {us : List Value}, RepAll w S l us → RepAll w (fun b => S b ∧ b < w.heap.size) l us
  | [], us, h => by unfold RepAll at h ⊢; exact h
  | j :: r, us, h => by
    unfold RepAll at h ⊢
    obtain ⟨u, us', e, h1, h2⟩ := h
    exact ⟨u, us', e, Rep.bounded h1, RepAll.bounded h2⟩
end
end Go.Proofs.YtpigccnlembfdaaGreatDoor

/- sort.Slice over the encoder's keys and values, by the shelf's contract; the plain laws on what it sorts. Conditions: as each theorem states. -/
namespace Go.Proofs.YtpigccnlembfdaaGreatDoor
open Go.RowKit Go.Shelf Go.Lib Go.Sort

/-- A key with its value, as two cells. -/
def encKV (p : ByteArray × Value) : List Value := [.string p.1, if p.2.oneCell' = true then p.2 else .nilIface]
theorem encKV_of {p : ByteArray × Value} (h : p.2.oneCell' = true) : encKV p = [.string p.1, p.2] := by unfold encKV; rw [if_pos h]
theorem encKV_one (p : ByteArray × Value) : ∀ v ∈ encKV p, v.oneCell' = true := fun v hv => by
  unfold encKV at hv
  simp only [List.mem_cons, List.not_mem_nil, or_false] at hv
  rcases hv with rfl | rfl
  · rfl
  · split
    · assumption
    · rfl
theorem ba_inj {a b : ByteArray} (h : a.toList = b.toList) : a = b := by
  rw [Lib.toList_data, Lib.toList_data] at h
  cases a; cases b; simpa using h
instance : Inhabited (ByteArray × Value) := ⟨(⟨#[]⟩, .nilIface)⟩
def ltKV (p q : ByteArray × Value) : Bool := Op.bytesLess p.1.toList q.1.toList
theorem bl_total : ∀ x y : List UInt8, Op.bytesLess x y = false → Op.bytesLess y x = false → x = y
  | [], [], _, _ => rfl
  | [], _ :: _, h, _ => by simp [Op.bytesLess] at h
  | _ :: _, [], _, h => by simp [Op.bytesLess] at h
  | a :: x, b :: y, h1, h2 => by
    simp only [Op.bytesLess, Bool.or_eq_false_iff, decide_eq_false_iff_not, Bool.and_eq_false_iff, beq_eq_false_iff_ne, UInt8.lt_iff_toNat_lt] at h1 h2
    have e : a = b := UInt8.toNat.inj (by omega)
    subst e
    rw [bl_total x y (h1.2.resolve_left (by simp)) (h2.2.resolve_left (by simp))]
theorem bl_asymm (x y : List UInt8) (h : Op.bytesLess x y = true) : Op.bytesLess y x = false := by
  cases hh : Op.bytesLess y x with
  | false => rfl
  | true => have := bl_trans x y x h hh; rw [bl_irrefl] at this; cases this
theorem swo_kv : SWO ltKV where
  irrefl x := bl_irrefl _
  trans x y z h1 h2 := bl_trans _ _ _ h1 h2
  ntrans x y z h1 h2 := by
    unfold ltKV at *
    cases hh : Op.bytesLess x.1.toList z.1.toList with
    | false => rfl
    | true =>
      exfalso
      cases h3 : Op.bytesLess y.1.toList x.1.toList with
      | true => rw [bl_trans _ _ _ h3 hh] at h2; cases h2
      | false =>
        rw [bl_total _ _ h1 h3] at hh
        rw [h2] at hh; cases hh
/-- A sorted row of the keys and values of a map is these in the keys' order. -/
theorem kv_sorted {ks : List ByteArray} {us : List Value} (hr : Rising ks) (hl : ks.length = us.length) {d d' : Array (ByteArray × Value)} (hp : d.toList.Perm (ks.zip us)) (h1 : PermIn 0 d.size d d') (h2 : SortedIn ltKV 0 d.size d') : d'.toList = ks.zip us := by
  obtain ⟨hs, -, hpp⟩ := h1
  have e1 : (d'.extract 0 d.size).toList = d'.toList := by rw [← hs, Array.extract_size]
  have e2 : (d.extract 0 d.size).toList = d.toList := by rw [Array.extract_size]
  rw [e1, e2] at hpp
  have hpz := hpp.trans hp
  have hat : ∀ i (hi : i < d'.size), d'[i]! = d'[i] := fun i hi => getElem!_pos d' i hi
  have key : ∀ p q, p ∈ ks.zip us → q ∈ ks.zip us → p.1 = q.1 → p = q := fun p q hp hq e => by
    obtain ⟨i, hi, rfl⟩ := List.getElem_of_mem hp
    obtain ⟨j, hj, rfl⟩ := List.getElem_of_mem hq
    rw [List.length_zip] at hi hj
    simp only [List.getElem_zip] at e ⊢
    have hij : i = j := hr.inj (List.getElem?_eq_getElem (by omega)) (by rw [e]; exact List.getElem?_eq_getElem (by omega))
    subst hij; rfl
  refine List.Perm.eq_of_pairwise (le := fun p q => ltKV q p = false) (fun p q hp hq h3 h4 => key p q (hpz.subset hp) hq ?_) ?_ ?_ hpz
  · exact ba_inj (bl_total _ _ h4 h3)
  · rw [List.pairwise_iff_getElem]
    intro i j hi hj hij
    have := h2 i j (Nat.zero_le _) hij (by rw [← hs]; simpa using hj)
    rw [hat i (by simpa using hi), hat j (by simpa using hj)] at this
    simpa using this
  · rw [List.pairwise_iff_getElem]
    intro i j hi hj hij
    rw [List.length_zip] at hi hj
    simp only [List.getElem_zip]
    have := hr.lt (j - i - 1) i ks[i] ks[j] (List.getElem?_eq_getElem (by omega)) (by rw [show i + (j - i - 1) + 1 = j by omega]; exact List.getElem?_eq_getElem (by omega))
    exact bl_asymm _ _ this

/-- The closure that compares two keys. -/
theorem less_any (blk off c Bs size : Nat) (W : World) (G : Nat → ByteArray) (hs : W.cell? ⟨Bs, 0, none⟩ = some (.slice (some ⟨blk, off, none⟩) size c))
    (hc : ∀ t, t < size → W.cell? ⟨blk, off + t * 2, none⟩ = some (.string (G t))) (i j : Nat) (hi : i < size) (hj : j < size) (_hsz : size < 4611686018427387904) :
    Calls Tryz.prog 88 #[.int .i64 i, .int .i64 j, .pointer (some ⟨Bs, 0, none⟩)] W fun e w' => e = .returned (.bool (Op.bytesLess (G i).toList (G j).toList)) ∧ ∃ q, w' = W.drewN q := by
  have ci := hc i hi
  have cj := hc j hj
  go_enter Tryz.func88, Tryz.ntmps88
  go_wp2
  go_quiet (fail)
  go_wp2
  go_ret
  exact ⟨rfl, nq, rfl⟩
noncomputable def kvT : TypeInfo := (Tryz.prog.info? 138).get (by kernel_rfl)
noncomputable def kvE : TypeInfo := (Tryz.prog.info? 140).get (by kernel_rfl)
theorem kvK (n : Nat) (h2 : 2 ≤ n) : Lib.swapperK n kvE 25 = 9 := by
  have a : kvE.hasPointers = true := by kernel_rfl
  have b : kvE.bytes = 32 := by kernel_rfl
  have c : (n == 0) = false := by simp; omega
  have d : (n == 1) = false := by simp; omega
  simp [Lib.swapperK, a, b, c, d]
/-- What the sort leaves: block K alone is turned; there are new blocks. -/
def SortPost (K n : Nat) (ps : List (ByteArray × Value)) (w : World) (e : Ending) (w' : World) : Prop := e = .returned (.tuple #[]) ∧ w.grownBy w' (some K) ∧ HoldsK encKV 2 w' K 0 ps.toArray ∧ ps.length = n
theorem grownBy_kv {w : World} {g n : Nat} {os : Array Obj} (d : Array (ByteArray × Value)) : w.grownBy (grow (putRowK encKV 2 (Sort.ahead w n) g 0 d) os) (some g) := by
  refine ⟨rfl, rfl, rfl, by simp [putRowK], fun k hk hne => ?_⟩
  unfold putRowK
  rw [heap_grow_old _ _ (by simpa using hk)]
  have : g ≠ k := fun e => hne (by rw [e])
  simp [putRow, mapBlock, Sort.ahead, Array.getElem?_modify, this]
theorem holdsK_grow' {w : World} {g n : Nat} {os : Array Obj} {d d' : Array (ByteArray × Value)} (h : HoldsK encKV 2 w g 0 d) (hs : d'.size = d.size) (hg : g < w.heap.size) : HoldsK encKV 2 (grow (putRowK encKV 2 (Sort.ahead w n) g 0 d') os) g 0 d' :=
  holdsK_grow encKV 2 _ os g 0 d' (by simp [putRowK]; exact hg) (holdsK_putRowK encKV 2 _ g 0 d d' (holdsK_ahead encKV 2 w n g 0 d h) hs)
theorem sort_any (w : World) (K c Bs : Nat) (ps : List (ByteArray × Value)) {ks : List ByteArray} {us : List Value} (hr : Rising ks) (hl : ks.length = us.length) (hp : ps.Perm (ks.zip us)) (h12 : ps.length ≤ 12)
    (h1 : ∀ p ∈ ps, p.2.oneCell' = true) (hH : HoldsK encKV 2 w K 0 ps.toArray) (hK : K < w.heap.size) (hBs : w.cell? ⟨Bs, 0, none⟩ = some (.slice (some ⟨K, 0, none⟩) ps.length c)) (hB1 : Bs < w.heap.size) (hB2 : Bs ≠ K) :
    Calls Tryz.prog 87 #[.iface 138 (.slice (some ⟨K, 0, none⟩) ps.length c), .func (.func 88) #[] #[.pointer (some ⟨Bs, 0, none⟩)]] w (SortPost K ps.length (ks.zip us) w) := by
  have hlen : (ks.zip us).length = ps.length := hp.length_eq.symm
  by_cases h2 : 2 ≤ ps.length
  · have hless : LessReadsK Tryz.prog 88 #[.pointer (some ⟨Bs, 0, none⟩)] encKV 2 ltKV K 0 ps.toArray.size w := by
      intro m os dk hs i j hi hj
      have e : sortWorldK encKV 2 w K 0 m dk os = putRowK encKV 2 (grow (Sort.ahead w m) os) K 0 dk := by
        unfold sortWorldK; rw [putRowK_grow _ _ (Sort.ahead w m) _ K 0 _ hK]
      have hHg : HoldsK encKV 2 (grow (Sort.ahead w m) os) K 0 ps.toArray := holdsK_grow _ _ _ _ K 0 ps.toArray hK (holdsK_ahead _ _ _ _ _ _ _ hH)
      refine less_any K 0 c Bs ps.toArray.size _ (fun t => dk[t]!.1) ?_ (fun t ht => ?_) i j hi hj (by simp; omega)
      · rw [e, cell?_putRowK_other _ _ _ K 0 dk _ (by exact hB2), cell?_grow _ _ _ (by exact hB1)]
        simpa using hBs
      · rw [e]; exact ((holdsK_putRowK _ _ _ K 0 ps.toArray dk hHg hs).cell (i := t) (c := 0) (by omega) (by omega)).1
    have hS := Any.sort_Slice_small_cells_sorted Tryz.laysSlice 138 140 kvT kvE (by kernel_rfl) (by kernel_rfl) (by kernel_rfl) (by kernel_rfl) 25 (fun _ => by kernel_rfl) encKV 2 (fun _ => rfl) (by kernel_rfl) (fun _ => by kernel_rfl)
      encKV_one ltKV swo_kv 88 _ (enters_of Tryz.func88 (by kernel_rfl) rfl) K 0 c ps.toArray (by simpa using h2) (by simpa using h12) 131 (by rw [kvK _ (by simpa using h2)]; kernel_rfl) false
      (fun args W => run_callFunc_extern Tryz.func131 (by kernel_rfl) (by kernel_rfl) (by kernel_rfl) (e := Extern.ReflectliteSwapper.swap false) (by kernel_rfl) args W) w hless hH hK
    rw [show ps.toArray.size = ps.length by simp] at hS
    refine Calls.mono (show Calls Tryz.prog 87 _ w _ from hS) ?_
    rintro e w' ⟨rfl, d', n, os, hp1, hs1, rfl⟩
    have hd := kv_sorted hr hl (d := ps.toArray) (d' := d') (by simpa using hp) hp1 hs1
    have hd2 : d' = (ks.zip us).toArray := by rw [← hd]
    subst hd2
    exact ⟨rfl, grownBy_kv _, holdsK_grow' hH hp1.1 hK, hlen⟩
  · have hzz : ps = ks.zip us := by
      match ps, hp, hlen, h2 with
      | [], hp, _, _ => exact (List.Perm.nil_eq hp)
      | [p], hp, _, _ => exact (List.Perm.singleton_eq hp)
      | _ :: _ :: _, _, _, h2 => exact absurd (by simp) h2
    have h01 : ps.length = 0 ∨ ps.length = 1 := by omega
    have hT : ∀ f, Tryz.prog.funcs.findIdx? (·.name == "internal/reflectlite" ++ ".Swapper$" ++ toString (swapperK ps.length kvE 25)) = some f → Calls Tryz.prog 87 #[.iface 138 (.slice (some ⟨K, 0, none⟩) ps.length c), .func (.func 88) #[] #[.pointer (some ⟨Bs, 0, none⟩)]] w (SortPost K ps.length (ks.zip us) w) := fun f hf => by
      refine Calls.mono (show Calls Tryz.prog 87 _ w _ from Any.sort_Slice_tiny Tryz.laysSlice 138 140 kvT kvE (by kernel_rfl) (by kernel_rfl) (by kernel_rfl) (by kernel_rfl) 25 (fun _ => by kernel_rfl) (some ⟨K, 0, none⟩) ps.length c (by omega) f hf _ _ _ w) ?_
      rintro e w' ⟨rfl, os, rfl⟩
      refine ⟨rfl, ⟨rfl, rfl, rfl, by simp, fun k hk _ => heap_grow_old _ _ hk⟩, ?_, hlen⟩
      rw [← hzz]
      exact holdsK_grow encKV 2 w os K 0 ps.toArray hK hH
    rcases h01 with h0 | h0
    · rw [h0] at hT ⊢
      exact hT 123 (by kernel_rfl)
    · rw [h0] at hT ⊢
      exact hT 124 (by kernel_rfl)
end Go.Proofs.YtpigccnlembfdaaGreatDoor
