/- What a represented map gives under a key, and that a map's block whose entries are represented represents the map. Conditions: as each theorem states. -/
import Derived.Test.YtpigccnlembfdaaDoorMeld
import Derived.Test.YtpigccnlembfdaaDoorCopy
namespace Go.Proofs.YtpigccnlembfdaaDoor
open Go.RowKit

mutual
/-- What is represented goes through blocks of the world. -/
theorem Rep.bounded {w : World} {S : Nat → Prop} : ∀ {j : J} {x : Value}, Rep w S j x → Rep w (fun b => S b ∧ b < w.heap.size) j x
  | .null, x, h => by unfold Rep at h ⊢; exact h
  | .bool b, x, h => by unfold Rep at h ⊢; exact h
  | .int n, x, h => by unfold Rep at h ⊢; exact h
  | .flt n, x, h => by unfold Rep at h ⊢; exact h
  | .str n, x, h => by unfold Rep at h ⊢; exact h
  | .list l, x, h => by
    unfold Rep at h ⊢
    obtain ⟨A, c, us, hx, h1, h2, h3, h4⟩ := h
    refine ⟨A, c, us, hx, h1, h2, RepAll.bounded h3, fun hn => ?_⟩
    obtain ⟨ad, e, hs, hlt, hc⟩ := h4 hn
    exact ⟨ad, e, ⟨hs, hlt⟩, hlt, hc⟩
  | .map ks vs, x, h => by
    unfold Rep at h ⊢
    obtain ⟨b, m, us, hx, h1, h2, h3, h4⟩ := h
    exact ⟨b, m, us, hx, ⟨h1, h2.lt⟩, h2, RepAll.bounded h3, h4⟩
theorem RepAll.bounded {w : World} {S : Nat → Prop} : ∀ {l : List J} {us : List Value}, RepAll w S l us → RepAll w (fun b => S b ∧ b < w.heap.size) l us
  | [], us, h => by unfold RepAll at h ⊢; exact h
  | j :: r, us, h => by
    unfold RepAll at h ⊢
    obtain ⟨u, us', e, h1, h2⟩ := h
    exact ⟨u, us', e, Rep.bounded h1, RepAll.bounded h2⟩
end

/-- A value of a map, or none. -/
def Has (w : World) (S : Nat → Prop) (o : Option J) (v : Option Value) : Prop := match o with
  | none => v = none
  | some j => ∃ u, v = some u ∧ Rep w S j u

theorem rep_look {w : World} {S : Nat → Prop} {ks : List ByteArray} {vs : List J} {us : List Value} {m : ByteArray → Option Value} (hr : Rising ks) (hl : ks.length = vs.length) (hrep : RepAll w S vs us)
    (hm : ∀ (s : ByteArray) (v : Value), m s = some v ↔ ∃ i : Nat, ks[i]? = some s ∧ us[i]? = some v) (s : ByteArray) : Has w S (at? ks vs s) (m s) := by
  cases ha : at? ks vs s with
  | none =>
    show m s = none
    cases hv : m s with
    | none => rfl
    | some v =>
      obtain ⟨i, h1, _⟩ := (hm s v).1 hv
      obtain ⟨j, hj⟩ := at_some (vs := vs) hl (List.mem_of_getElem? h1)
      rw [ha] at hj; cases hj
  | some j =>
    obtain ⟨i, h1, h2⟩ := (at_iff hr).1 ha
    have hlen := hrep.length
    obtain ⟨u, hu⟩ : ∃ u, us[i]? = some u := ⟨_, List.getElem?_eq_getElem (by have := (List.getElem?_eq_some_iff.1 h2).1; omega)⟩
    exact ⟨u, (hm s u).2 ⟨i, h1, hu⟩, hrep.at_ h2 hu⟩

theorem rising_nodup : ∀ {ks : List ByteArray}, Rising ks → ks.Nodup
  | [], _ => List.nodup_nil
  | k :: ks, h => List.nodup_cons.2 ⟨fun hm => (by have := h.head hm; rw [bl_irrefl] at this; cases this), rising_nodup h.tail⟩

/-- The values behind the keys, each represented. -/
theorem repAll_of {w : World} {S : Nat → Prop} {m : ByteArray → Option Value} : ∀ {ks : List ByteArray} {vs : List J}, Rising ks → ks.length = vs.length → (∀ s, s ∈ ks → Has w S (at? ks vs s) (m s)) →
    ∃ us, RepAll w S vs us ∧ ∀ (i : Nat) (s : ByteArray), ks[i]? = some s → us[i]? = m s
  | [], vs, _, hl, _ => by
    obtain rfl : vs = [] := by cases vs <;> simp_all
    exact ⟨[], repAll_nil _ _, fun i s h => by simp at h⟩
  | k :: ks, [], _, hl, _ => by simp at hl
  | k :: ks, v :: vs, hr, hl, h => by
    have hk : k ∉ ks := (List.nodup_cons.1 (rising_nodup hr)).1
    obtain ⟨us, h1, h2⟩ := repAll_of (ks := ks) (vs := vs) hr.tail (by simpa using hl) (fun s hs => by
      have := h s (List.mem_cons_of_mem _ hs)
      simp only [at?] at this
      rw [if_neg (by rintro rfl; exact hk hs)] at this
      exact this)
    have h0 := h k (List.mem_cons_self ..)
    simp only [at?, if_pos] at h0
    obtain ⟨u, hu, hru⟩ := h0
    refine ⟨u :: us, by unfold RepAll; exact ⟨u, us, rfl, hru, h1⟩, fun i s hs => ?_⟩
    cases i with
    | zero => simp at hs; subst hs; simp [hu]
    | succ i => simpa using h2 i s (by simpa using hs)

theorem same_length {α : Type} {a b : List α} (ha : a.Nodup) (hb : b.Nodup) (h : ∀ x, x ∈ a ↔ x ∈ b) : a.length = b.length := by
  letI : DecidableEq α := fun a b => Classical.propDecidable (a = b)
  exact ((List.perm_ext_iff_of_nodup ha hb).2 h).length_eq

/-- A map's block whose entries are represented represents the map. -/
theorem rep_map {w : World} {S : Nat → Prop} {b n : Nat} {m : ByteArray → Option Value} {ks : List ByteArray} {vs : List J} (h : MapIs w b n m) (hS : S b) (hr : Rising ks) (hl : ks.length = vs.length)
    (hsz : ∀ s ∈ ks, s.size ≤ 140737488351232) (hh : ∀ s, Has w S (at? ks vs s) (m s)) : Rep w S (.map ks vs) (.iface 42 (.map (some b))) := by
  obtain ⟨us, h1, h2⟩ := repAll_of hr hl (fun s _ => hh s)
  have hmk : ∀ s, (∃ v, m s = some v) ↔ s ∈ ks := fun s => by
    have := hh s
    constructor
    · rintro ⟨v, hv⟩
      refine Classical.byContradiction fun hn => ?_
      rw [at_none hn] at this
      have e : m s = none := this
      rw [e] at hv; cases hv
    · intro hs
      obtain ⟨j, hj⟩ := at_some hl hs
      rw [hj] at this
      obtain ⟨u, hu, _⟩ := this
      exact ⟨u, hu⟩
  have hn : ks.length = n := by
    obtain ⟨es, clock, hb, hst, hsz, hkeys, hm⟩ := h
    have hnd : (es.toList.map (·.key)).Nodup := by
      obtain ⟨_, _, h3⟩ := hst
      exact h3
    let f : MapEntry → ByteArray := fun x => match x.key with | .string s => s | _ => ⟨#[]⟩
    have hf : ∀ x ∈ es.toList, x.key = .string (f x) := fun x hx => by
      obtain ⟨s, e, _⟩ := hkeys x hx
      simp only [f, e]
    have hnd2 : (es.toList.map f).Nodup := by
      have e : es.toList.map (·.key) = (es.toList.map f).map Value.string := by
        rw [List.map_map]
        exact List.map_congr_left hf
      rw [e] at hnd
      exact List.Pairwise.of_map Value.string (fun a b h e => h (congrArg _ e)) hnd
    have := same_length (rising_nodup hr) hnd2 (fun s => by
      rw [← hmk s]
      constructor
      · rintro ⟨v, hv⟩
        obtain ⟨x, hx, e, _⟩ := (hm s v).1 hv
        have e2 := hf x hx
        rw [e] at e2
        injection e2 with e2
        exact List.mem_map.2 ⟨x, hx, e2.symm⟩
      · intro hs
        obtain ⟨x, hx, e⟩ := List.mem_map.1 hs
        exact ⟨x.val, (hm s x.val).2 ⟨x, hx, by rw [hf x hx, e], rfl⟩⟩)
    rw [this, List.length_map]
    simpa using hsz
  unfold Rep
  refine ⟨b, m, us, rfl, hS, hn ▸ h, h1, hl, hr, hsz, fun s v => ?_⟩
  constructor
  · intro hv
    have hs := (hmk s).1 ⟨v, hv⟩
    obtain ⟨i, hi, e⟩ := List.getElem_of_mem hs
    have hi' : ks[i]? = some s := by rw [List.getElem?_eq_getElem hi, e]
    exact ⟨i, hi', (h2 i s hi').trans hv⟩
  · rintro ⟨i, h3, h4⟩
    rw [← h2 i s h3]; exact h4
end Go.Proofs.YtpigccnlembfdaaDoor
