/- Maps with string keys, as functions from keys to values: what a lookup gives, what a store leaves. Conditions: none. -/
import Derived.Test.YtpigccnlembfdaaGreatDoorVal
import Derived.Maps.OwnOps
import Derived.Maps.OwnSet
namespace Go.Proofs.YtpigccnlembfdaaGreatDoor
open Go.RowKit Go.MapKept Go.ChangeMaps
open Go.Maps (Keyed string_keyed)
open Go.WideMaps

/-- Block b of w is a map with string keys: under the key s it holds m s; n entries. -/
def MapIs (w : World) (b n : Nat) (m : ByteArray → Option Value) : Prop :=
  ∃ es clock, w.heap[b]? = some (.map es clock) ∧ Stamped es clock ∧ es.size = n ∧ (∀ x ∈ es.toList, ∃ s : ByteArray, x.key = .string s ∧ s.size ≤ maxLen) ∧
    ∀ (s : ByteArray) (v : Value), m s = some v ↔ ∃ x ∈ es.toList, x.key = .string s ∧ x.val = v

section
variable {P : Program} {t k e : TypeId} {w : World} {b n : Nat} {m : ByteArray → Option Value}

theorem MapIs.lt (h : MapIs w b n m) : b < w.heap.size := by
  obtain ⟨es, clock, hb, _⟩ := h
  exact (Array.getElem?_eq_some_iff.1 hb).1
theorem MapIs.of_block {w' : World} (h : MapIs w b n m) (hb : w'.heap[b]? = w.heap[b]?) : MapIs w' b n m := by
  obtain ⟨es, clock, h1, h2⟩ := h
  exact ⟨es, clock, hb.trans h1, h2⟩
theorem MapIs.made (w : World) : MapIs (w.alloc (.map #[] 0)) w.heap.size 0 (fun _ => none) :=
  ⟨#[], 0, (MapKept.heap_alloc w _).1, stamped_empty 0, rfl, by simp, by simp⟩

theorem keyOf_str (hk : P.underlying k = some .string) {s : ByteArray} (hs : s.size ≤ maxLen) : keyOf P k (.string s) = some (.string s.data.toList) := keyOf_string_mk hk hs

theorem MapIs.keys (hk : P.underlying k = some .string) {es : Array MapEntry} (h : ∀ x ∈ es.toList, ∃ s : ByteArray, x.key = .string s ∧ s.size ≤ maxLen) : ∀ x ∈ es.toList, ∃ l, keyOf P k x.key = some l := fun x hx => by
  obtain ⟨s, e1, e2⟩ := h x hx
  exact ⟨_, by rw [e1]; exact keyOf_str hk e2⟩

theorem nodup_idx {α : Type} {l : List α} (h : l.Nodup) {i j : Nat} (hi : i < l.length) (hj : j < l.length) (e : l[i] = l[j]) : i = j := by
  have hp := List.pairwise_iff_getElem.1 h
  rcases Nat.lt_trichotomy i j with h1 | h1 | h1
  · exact absurd e (hp i j hi hj h1)
  · exact h1
  · exact absurd e.symm (hp j i hj hi h1)
/-- Two entries of one key are one. -/
theorem one_key {es : Array MapEntry} {clock : Nat} (hst : Stamped es clock) {x y : MapEntry} (hx : x ∈ es.toList) (hy : y ∈ es.toList) (h : x.key = y.key) : x = y := by
  obtain ⟨_, _, hn⟩ := hst
  obtain ⟨i, hi, rfl⟩ := List.getElem_of_mem hx
  obtain ⟨j, hj, rfl⟩ := List.getElem_of_mem hy
  have hij : i = j := nodup_idx hn (by simpa using hi) (by simpa using hj) (by simpa using h)
  subst hij; rfl

/-- v, ok := m[s] -/
theorem MapIs.look (h : MapIs w b n m) (ht : P.underlying t = some (.map k e)) (hk : P.underlying k = some .string) {z : Value} (hz : (zeroValue e).run P w = .ok z w) (c : Bool) {s : ByteArray} (hs : s.size ≤ maxLen) :
    (Instr.lookup t (.map (some b)) (.string s) c).run P w = .ok (if c then .tuple #[(m s).getD z, .bool (m s).isSome] else (m s).getD z) w := by
  obtain ⟨es, clock, hb, hst, _, hkeys, hm⟩ := h
  have K := string_keyed hk
  have hkey := keyOf_str hk hs
  rcases K.find w hkey es.toList (MapIs.keys hk hkeys) with ⟨h1, h2⟩ | ⟨j, e0, h1, h2, h3⟩
  · have hn : m s = none := by
      cases hms : m s with
      | none => rfl
      | some v => obtain ⟨x, hx, hxk, _⟩ := (hm s v).1 hms; exact absurd hxk (h2 x hx)
    simp [Instr.lookup, run_underlying ht, MapKept.run_getObj_map hb, K.check w _ hkey, h1, hz, Result.andThen, hn]
  · have hn : m s = some e0.val := (hm s e0.val).2 ⟨e0, List.mem_of_getElem? h2, h3, rfl⟩
    simp [Instr.lookup, run_underlying ht, MapKept.run_getObj_map hb, K.check w _ hkey, h1, Result.andThen, hn]

/-- m[s] = v -/
theorem MapIs.put (h : MapIs w b n m) (ht : P.underlying t = some (.map k e)) (hk : P.underlying k = some .string) {s : ByteArray} (hs : s.size ≤ maxLen) (v : Value) :
    ∃ o, (Instr.mapUpdate t (.map (some b)) (.string s) v).run P w = .ok () (setBlock w b o) ∧ MapIs (setBlock w b o) b (if (m s).isSome then n else n + 1) (fun s' => if s' = s then some v else m s') := by
  have hlt := h.lt
  obtain ⟨es, clock, hb, hst, hsz, hkeys, hm⟩ := h
  have K := string_keyed hk
  have hkey := keyOf_str hk hs
  have hblk : ∀ o, (setBlock w b o).heap[b]? = some o := fun o => by simp [setBlock, hlt]
  rcases K.find w hkey es.toList (MapIs.keys hk hkeys) with ⟨h1, h2⟩ | ⟨j, e0, h1, h2, h3⟩
  · have hn : m s = none := by
      cases hms : m s with
      | none => rfl
      | some v => obtain ⟨x, hx, hxk, _⟩ := (hm s v).1 hms; exact absurd hxk (h2 x hx)
    refine ⟨.map (es.push ⟨.string s, v, clock⟩) (clock + 1), ?_, es.push ⟨.string s, v, clock⟩, clock + 1, hblk _, stamped_push hst h2, ?_, ?_, ?_⟩
    · simp [Instr.mapUpdate, run_underlying ht, MapKept.run_getObj_map hb, K.check w false hkey, h1, MapKept.run_setObj_map _ hb, Result.andThen, setBlock]
    · simp [hn, hsz]
    · intro x hx
      simp only [Array.toList_push, List.mem_append, List.mem_singleton] at hx
      rcases hx with hx | rfl
      · exact hkeys x hx
      · exact ⟨s, rfl, hs⟩
    · intro s' v'
      by_cases he : s' = s
      · subst he
        simp only [if_true, Array.toList_push, List.mem_append, List.mem_singleton]
        constructor
        · intro hv; cases hv; exact ⟨_, Or.inr rfl, rfl, rfl⟩
        · rintro ⟨x, hx | rfl, hxk, hxv⟩
          · exact absurd hxk (h2 x hx)
          · rw [← hxv]
      · simp only [if_neg he, Array.toList_push, List.mem_append, List.mem_singleton]
        rw [hm]
        constructor
        · rintro ⟨x, hx, h⟩; exact ⟨x, Or.inl hx, h⟩
        · rintro ⟨x, hx | rfl, hxk, hxv⟩
          · exact ⟨x, hx, hxk, hxv⟩
          · injection hxk with hxk; exact absurd hxk.symm he
  · have hmem := List.mem_of_getElem? h2
    have hn : m s = some e0.val := (hm s e0.val).2 ⟨e0, hmem, h3, rfl⟩
    have hj : es[j]? = some e0 := by simpa using h2
    have hkeyf : ∀ e', es[j]? = some e' → ({ e' with key := .string s, val := v } : MapEntry).key = e'.key := fun e' he' => by rw [hj] at he'; cases he'; exact h3.symm
    have hlist : (es.modify j (fun e' => { e' with key := .string s, val := v })).toList = es.toList.set j { e0 with key := .string s, val := v } := by rw [Array.toList_modify, modify_eq_set _ _ _ _ h2]
    have hjl : j < es.toList.length := (List.getElem?_eq_some_iff.1 h2).1
    have who : ∀ x, x ∈ es.toList.set j { e0 with key := .string s, val := v } ↔ (x = { e0 with key := .string s, val := v } ∨ (x ∈ es.toList ∧ x.key ≠ .string s)) := by
      intro x
      constructor
      · intro hx
        obtain ⟨i, hi, ex⟩ := List.getElem_of_mem hx
        rw [List.getElem_set] at ex
        split at ex
        · exact Or.inl ex.symm
        · rename_i hne
          have hi' : i < es.toList.length := by simpa using hi
          refine Or.inr ⟨ex ▸ List.getElem_mem hi', fun hxs => hne ?_⟩
          have hx0 : x = e0 := one_key hst (ex ▸ List.getElem_mem hi') hmem (hxs.trans h3.symm)
          have hnd := hst.2.1
          have e2 : es.toList[j] = e0 := (List.getElem?_eq_some_iff.1 h2).2
          exact (nodup_idx hnd (by simpa using hi') (by simpa using hjl) (by simp only [List.getElem_map, ex, e2, hx0])).symm
      · rintro (rfl | ⟨hx, hne⟩)
        · exact List.mem_of_getElem? (List.getElem?_set_self hjl)
        · obtain ⟨i, hi, ex⟩ := List.getElem_of_mem hx
          have hij : j ≠ i := by
            rintro rfl
            have e2 : es.toList[j] = e0 := (List.getElem?_eq_some_iff.1 h2).2
            exact hne (by rw [← ex, e2]; exact h3)
          exact List.mem_of_getElem? (i := i) (by rw [List.getElem?_set_ne hij, List.getElem?_eq_getElem hi, ex])
    refine ⟨.map (es.modify j (fun e' => { e' with key := .string s, val := v })) clock, ?_, es.modify j (fun e' => { e' with key := .string s, val := v }), clock, hblk _, stamped_modify hst _ _ (fun _ _ => rfl) (fun e' _ he' => hkeyf e' he'), ?_, ?_, ?_⟩
    · simp [Instr.mapUpdate, run_underlying ht, MapKept.run_getObj_map hb, K.check w false hkey, h1, hj, h3, K.stays w hkey, MapKept.run_setObj_map _ hb, Result.andThen, setBlock]
    · simp [hn, hsz]
    · intro x hx
      rw [hlist, who] at hx
      rcases hx with rfl | ⟨hx, _⟩
      · exact ⟨s, rfl, hs⟩
      · exact hkeys x hx
    · intro s' v'
      rw [hlist]
      by_cases he : s' = s
      · subst he
        simp only [if_true]
        constructor
        · intro hv; cases hv; exact ⟨_, (who _).2 (Or.inl rfl), rfl, rfl⟩
        · rintro ⟨x, hx, hxk, hxv⟩
          rcases (who x).1 hx with rfl | ⟨_, hne⟩
          · rw [← hxv]
          · exact absurd hxk hne
      · simp only [if_neg he]
        rw [hm]
        constructor
        · rintro ⟨x, hx, hxk, hxv⟩
          exact ⟨x, (who x).2 (Or.inr ⟨hx, by rw [hxk]; intro h; injection h with h; exact he h⟩), hxk, hxv⟩
        · rintro ⟨x, hx, hxk, hxv⟩
          rcases (who x).1 hx with rfl | ⟨hx, _⟩
          · injection hxk with hxk; exact absurd hxk.symm he
          · exact ⟨x, hx, hxk, hxv⟩
end
end Go.Proofs.YtpigccnlembfdaaGreatDoor
