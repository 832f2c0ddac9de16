/- A map with string keys, as the kit's laws on ranges and copies have it, and as a function: the two say the same. Conditions: none. -/
import Derived.Test.YtpigccnlembfdaaDoorRep
import Derived.Maps.RangeWalk
import Derived.Lib.SlMapMerge
namespace Go.Proofs.YtpigccnlembfdaaDoor
open Go.RowKit Go.Maps Go.MapKept
open Go.WideElems (rd rg rd_key rd_val rg_of)

/-- A value, held as it is. -/
def heldR (v : Value) : Option (DataW Value × List MemPlace) := some (.held v, [])

theorem insert_mem (x y : Lit × DataW Value) : ∀ l : List (Lit × DataW Value), y ∈ DataW.insert x l ↔ y = x ∨ y ∈ l
  | [] => by simp [DataW.insert]
  | z :: r => by
    simp only [DataW.insert]
    split
    · simp
    · simp only [List.mem_cons, insert_mem x y r]
      constructor
      · rintro (h | h | h) <;> simp [h]
      · rintro (h | h | h) <;> simp [h]
theorem insert_length (x : Lit × DataW Value) : ∀ l : List (Lit × DataW Value), (DataW.insert x l).length = l.length + 1
  | [] => rfl
  | z :: r => by
    simp only [DataW.insert]
    split
    · rfl
    · simp [insert_length x r]
theorem fold_mem (y : Lit × DataW Value) : ∀ l : List (Lit × DataW Value), y ∈ l.foldr DataW.insert [] ↔ y ∈ l
  | [] => by simp
  | x :: r => by simp [insert_mem, fold_mem y r]
theorem fold_length : ∀ l : List (Lit × DataW Value), (l.foldr DataW.insert []).length = l.length
  | [] => rfl
  | x :: r => by simp [insert_length, fold_length r]

/-- What a datum of a map gives under a key. -/
def mapOf (D : DataW Value) (s : ByteArray) : Option Value := match D.atKey (.string s.data.toList) .nil with | .held v => some v | _ => none

section
variable {P : Program} {k : TypeId} {w : World} {b n : Nat} {D : DataW Value} {m : ByteArray → Option Value}

theorem key_inv (hk : P.underlying k = some .string) {v : Value} {l : Lit} (h : keyOf P k v = some l) : ∃ s : ByteArray, v = .string s ∧ s.size ≤ maxLen := by
  rw [keyOf_string hk] at h
  unfold mapKey at h
  rw [hk] at h
  cases v <;> simp at h
  exact ⟨_, rfl, h.1⟩
theorem rg_str (hk : P.underlying k = some .string) {x : MapEntry} {s : ByteArray} (e : x.key = .string s) (hs : s.size ≤ maxLen) : rd P k heldR x = some (.string s.data.toList, .held x.val) := by
  simp [rd, e, keyOf_str hk hs, heldR]

theorem find_of {ents : List (Lit × DataW Value)} {key : Lit} (hkey : WideAt.IsKeyLit key) {d : DataW Value} (hm : (key, d) ∈ ents) (hu : ∀ d', (key, d') ∈ ents → d' = d) (z : DataW Value) : (DataW.map ents).atKey key z = d := by
  simp only [DataW.atKey]
  cases hf : ents.find? (fun p => p.1.sameKey key) with
  | none =>
    exfalso
    have := List.find?_eq_none.1 hf _ hm
    simp [WideAt.sameKey_self hkey] at this
  | some p =>
    have h1 := List.find?_some hf
    have h2 := List.mem_of_find?_eq_some hf
    have e : p.1 = key := WideAt.sameKey_eq h1
    obtain ⟨p1, p2⟩ := p
    simp only at e; subst e
    simp only [hu _ h2]
theorem find_none {ents : List (Lit × DataW Value)} {key : Lit} (hm : ∀ d, (key, d) ∉ ents) (z : DataW Value) : (DataW.map ents).atKey key z = z := by
  simp only [DataW.atKey]
  cases hf : ents.find? (fun p => p.1.sameKey key) with
  | none => simp only []
  | some p =>
    have h1 := List.find?_some hf
    have h2 := List.mem_of_find?_eq_some hf
    have e : p.1 = key := WideAt.sameKey_eq h1
    obtain ⟨p1, p2⟩ := p
    simp only at e; subst e
    exact absurd h2 (hm _)

/-- The two ways to say what a map's block holds. -/
theorem own_iff (hk : P.underlying k = some .string) {es : Array MapEntry} {clock : Nat} (hst : Stamped es clock) (hkeys : ∀ x ∈ es.toList, ∃ s : ByteArray, x.key = .string s ∧ s.size ≤ maxLen) (hD : D = .map ((es.toList.map (rg P k heldR)).foldr DataW.insert [])) (s : ByteArray) (v : Value) :
    mapOf D s = some v ↔ ∃ x ∈ es.toList, x.key = .string s ∧ x.val = v := by
  have hmem : ∀ (t : List UInt8) (d : DataW Value), (Lit.string t, d) ∈ (es.toList.map (rg P k heldR)).foldr DataW.insert [] ↔ ∃ x ∈ es.toList, x.key = .string ⟨t.toArray⟩ ∧ d = .held x.val := by
    intro t d
    rw [fold_mem, List.mem_map]
    constructor
    · rintro ⟨x, hx, e⟩
      obtain ⟨s', e1, e2⟩ := hkeys x hx
      rw [rg_of (rg_str hk e1 e2)] at e
      injection e with e3 e4
      injection e3 with e3
      subst e3
      exact ⟨x, hx, by rw [e1], e4.symm⟩
    · rintro ⟨x, hx, e, rfl⟩
      obtain ⟨s', e1, e2⟩ := hkeys x hx
      rw [e1] at e
      injection e with e
      subst e
      exact ⟨x, hx, by rw [rg_of (rg_str hk e1 e2)]⟩
  have hS : (⟨s.data.toList.toArray⟩ : ByteArray) = s := by cases s; simp
  subst hD
  constructor
  · intro h
    unfold mapOf at h
    by_cases he : ∃ x ∈ es.toList, x.key = .string s
    · obtain ⟨x, hx, e⟩ := he
      rw [find_of (by trivial) ((hmem _ _).2 ⟨x, hx, by rw [hS, e], rfl⟩) (fun d' hd' => by
        obtain ⟨y, hy, e1, rfl⟩ := (hmem _ _).1 hd'
        rw [hS] at e1
        rw [one_key hst hy hx (e1.trans e.symm)]) _] at h
      exact ⟨x, hx, e, by simpa using h⟩
    · rw [find_none (fun d hd => by obtain ⟨y, hy, e1, _⟩ := (hmem _ _).1 hd; rw [hS] at e1; exact he ⟨y, hy, e1⟩)] at h
      simp at h
  · rintro ⟨x, hx, e, rfl⟩
    unfold mapOf
    rw [find_of (by trivial) ((hmem _ _).2 ⟨x, hx, by rw [hS, e], rfl⟩) (fun d' hd' => by
      obtain ⟨y, hy, e1, rfl⟩ := (hmem _ _).1 hd'
      rw [hS] at e1
      rw [one_key hst hy hx (e1.trans e.symm)]) _]

theorem MapIs.own (hk : P.underlying k = some .string) (h : MapIs w b n m) (hn : n ≤ maxLen) : ∃ D, w.ownsMap P k heldR b n D ∧ Maps.size D = n ∧ mapOf D = m := by
  obtain ⟨es, clock, hb, hst, hsz, hkeys, hm⟩ := h
  refine ⟨_, ⟨es, clock, hb, ⟨by omega, hst, fun x hx => ?_⟩, by omega, rfl⟩, by simp [Maps.size, fold_length, hsz], ?_⟩
  · obtain ⟨s, e1, e2⟩ := hkeys x hx
    exact ⟨_, rg_str hk e1 e2⟩
  · funext s
    apply Option.ext
    intro v
    exact (own_iff hk hst hkeys rfl s v).trans (hm s v).symm
theorem own_mapIs (hk : P.underlying k = some .string) (h : w.ownsMap P k heldR b n D) : MapIs w b (Maps.size D) (mapOf D) := by
  obtain ⟨es, clock, hb, hF, hsz, hD⟩ := h
  have hkeys : ∀ x ∈ es.toList, ∃ s : ByteArray, x.key = .string s ∧ s.size ≤ maxLen := fun x hx => by
    obtain ⟨y, hy⟩ := hF.reads x hx
    obtain ⟨s, e1, e2⟩ := key_inv hk (rd_key hy)
    exact ⟨s, e1, e2⟩
  exact ⟨es, clock, hb, hF.stamped, by rw [hD]; simp [Maps.size, fold_length], hkeys, fun s v => own_iff hk hF.stamped hkeys hD s v⟩
end
end Go.Proofs.YtpigccnlembfdaaDoor
