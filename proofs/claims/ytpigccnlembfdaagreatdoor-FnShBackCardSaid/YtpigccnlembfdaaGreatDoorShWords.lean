/- What the second loop of FnShBack has read so far, and its steps. Conditions: as each theorem states. -/
import Derived.Test.YtpigccnlembfdaaGreatDoorShLoop
namespace Go.Proofs.YtpigccnlembfdaaGreatDoor
open Go.RowKit

/-- A word as a string. -/
def wv (t : List UInt8) : Value := .string ⟨t.toArray⟩

theorem wv_snoc (cur : List UInt8) (x : UInt8) : Value.string (({ data := cur.toArray } : ByteArray) ++ { data := #[x] }) = wv (cur ++ [x]) := by
  have e : (({ data := cur.toArray } : ByteArray) ++ { data := #[x] }) = ⟨(cur ++ [x]).toArray⟩ := by
    apply ByteArray.ext
    rw [ByteArray.data_append]; simp
  rw [e]; rfl

/-- One cell of a row of the call's own is written. -/
theorem own_set {w : World} {base : Nat} {e : TypeId} {n g cap i : Nat} {xs : List Value} (h : w.ownsRow base e 1 (.slice (some ⟨g, 0, none⟩) n cap) n xs) (hi : i < n) (u : Value) :
    (w.setCell ⟨g, i, none⟩ u).ownsRow base e 1 (.slice (some ⟨g, 0, none⟩) n cap) n (xs.set i u) := by
  refine ⟨by rw [List.length_set]; exact h.1, ?_⟩
  rcases h.2 with ⟨hv, h0⟩ | ⟨g', cap', cur, hv, hb, hg, h1, h2, h3, h4⟩
  · omega
  · cases hv
    refine Or.inr ⟨g, cap, cur.setIfInBounds i u, rfl, hb, ?_, h1, h2, by simpa using h3, ?_⟩
    · simp [World.setCell, Array.getElem?_modify, hg]
    · rw [← h4]
      simp [List.take_set]
theorem own_cell {w : World} {base : Nat} {e : TypeId} {n g cap i : Nat} {xs : List Value} {u : Value} (h : w.ownsRow base e 1 (.slice (some ⟨g, 0, none⟩) n cap) n xs) (hu : xs[i]? = some u) : w.cell? ⟨g, i, none⟩ = some u := by
  have := h.cells rfl i u hu
  rwa [show (⟨g, 0, none⟩ : Addr).add i = ⟨g, i, none⟩ by unfold Addr.add; split <;> simp_all] at this
theorem own_frozen {w : World} {base : Nat} {e : TypeId} {n g cap : Nat} {xs : List Value} (h : w.ownsRow base e 1 (.slice (some ⟨g, 0, none⟩) n cap) n xs) (hn : 0 < n) (i : Nat) : w.frozen? ⟨g, i, none⟩ = false := by
  rcases h.2 with ⟨hv, h0⟩ | ⟨g', cap', cur, hv, hb, hg, h1⟩
  · omega
  · cases hv
    simp [World.frozen?, hg]

/-- One byte of a string. -/
theorem ext_one {St : ByteArray} {T : List UInt8} {q : Nat} {x : UInt8} (h : St = ⟨T.toArray⟩) (hx : T[q]? = some x) : St.extract q (q + 1) = ⟨#[x]⟩ := by
  subst h
  obtain ⟨hlt, rfl⟩ := List.getElem?_eq_some_iff.1 hx
  apply ByteArray.ext
  rw [ByteArray.data_extract]
  apply Array.ext'
  rw [Array.toList_extract]
  show (T.drop q).take (q + 1 - q) = [T[q]]
  rw [List.drop_eq_getElem_cons hlt, show q + 1 - q = 1 by omega]
  rfl

structure SW (w0 wr : World) (T : List UInt8) (q : Nat) (sv : Value) (L : List (List UInt8)) (b : Bool) (R : List (List UInt8)) : Prop where
  below : Below w0.heap.size w0 wr
  own : wr.ownsRow w0.heap.size 9 1 sv L.length (L.map wv)
  ne : L ≠ []
  run : sh (T.drop q) L b = some (R, false)
  many : L.length ≤ q + 1
  long : ∀ t ∈ L, t.length ≤ q

theorem drop_at {T : List UInt8} {q : Nat} {c : UInt8} (h : T[q]? = some c) : T.drop q = c :: T.drop (q + 1) := by
  obtain ⟨hlt, rfl⟩ := List.getElem?_eq_some_iff.1 h
  exact List.drop_eq_getElem_cons hlt

/-- What may stand at a place. -/
theorem SW.ways {w0 wr : World} {T : List UInt8} {q : Nat} {sv : Value} {L R : List (List UInt8)} {b : Bool} (h : SW w0 wr T q sv L b R) {c : UInt8} (hc : T[q]? = some c) :
    c = 39 ∨ (c ≠ 39 ∧ b = true) ∨ (b = false ∧ c = 32) ∨ (b = false ∧ c = 92 ∧ ∃ c', T[q + 1]? = some c') := by
  have hr := h.run
  rw [drop_at hc, sh_cons] at hr
  by_cases h1 : c = 39
  · exact Or.inl h1
  · rw [if_neg h1] at hr
    cases b with
    | true => exact Or.inr (Or.inl ⟨h1, rfl⟩)
    | false =>
      rw [if_neg (by decide)] at hr
      by_cases h2 : c = 32
      · exact Or.inr (Or.inr (Or.inl ⟨rfl, h2⟩))
      · rw [if_neg h2] at hr
        by_cases h3 : c = 92
        · rw [if_pos h3] at hr
          cases hd : T.drop (q + 1) with
          | nil => rw [hd] at hr; cases hr
          | cons c' r =>
            refine Or.inr (Or.inr (Or.inr ⟨rfl, h3, c', ?_⟩))
            have := congrArg (fun l => l[0]?) hd
            simpa [List.getElem?_drop] using this
        · rw [if_neg h3] at hr; cases hr

theorem SW.quote {w0 wr : World} {T : List UInt8} {q : Nat} {sv : Value} {L R : List (List UInt8)} {b : Bool} (h : SW w0 wr T q sv L b R) (hc : T[q]? = some 39) : SW w0 wr T (q + 1) sv L (!b) R := by
  have hr := h.run
  rw [drop_at hc, sh_quote] at hr
  exact ⟨h.below, h.own, h.ne, hr, by have := h.many; omega, fun t ht => by have := h.long t ht; omega⟩

theorem SW.blank {w0 wr W w5 : World} {T : List UInt8} {q : Nat} {sv sv' : Value} {L R : List (List UInt8)} (h : SW w0 wr T q sv L false R) (hc : T[q]? = some 32) (hbW : Below wr.heap.size wr W) (hg5 : W.grownBy w5 sv.ownBlock)
    (hown : w5.ownsRow w0.heap.size 9 1 sv' (L.length + 1) (L.map wv ++ [wv []])) : SW w0 w5 T (q + 1) sv' (L ++ [[]]) false R := by
  have hr := h.run
  have hol := h.own.lt
  have hs := h.below.size
  have hs2 := hbW.size
  rw [drop_at hc, sh_blank] at hr
  refine ⟨(h.below.trans (hbW.mono hs)).grown hg5 (by omega) (fun k hk => by have := hol k hk; omega), ?_, by simp, hr, by have := h.many; simp; omega, fun t ht => ?_⟩
  · simpa using hown
  · rcases List.mem_append.1 ht with ht | ht
    · have := h.long t ht; omega
    · rw [List.mem_singleton.1 ht]; simp

theorem SW.char {w0 wr : World} {T : List UInt8} {q q' g cap : Nat} {d : List (List UInt8)} {cur : List UInt8} {R : List (List UInt8)} {b : Bool} {c : UInt8}
    (h : SW w0 wr T q (.slice (some ⟨g, 0, none⟩) (d.length + 1) cap) (d ++ [cur]) b R)
    (hc : (b = true ∧ c ≠ 39 ∧ T[q]? = some c ∧ q' = q + 1) ∨ (b = false ∧ T[q]? = some 92 ∧ T[q + 1]? = some c ∧ q' = q + 2)) :
    SW w0 (wr.setCell ⟨g, d.length, none⟩ (wv (cur ++ [c]))) T q' (.slice (some ⟨g, 0, none⟩) (d.length + 1) cap) (d ++ [cur ++ [c]]) b R := by
  have hr := h.run
  have hr' : sh (T.drop q') (d ++ [cur ++ [c]]) b = some (R, false) := by
    rcases hc with ⟨rfl, h1, h2, rfl⟩ | ⟨rfl, h1, h2, rfl⟩
    · rw [drop_at h2, sh_in c _ _ h1, addLast_snoc] at hr
      exact hr
    · rw [drop_at h1, drop_at h2, sh_back, addLast_snoc] at hr
      exact hr
  have hq : q + 1 ≤ q' := by rcases hc with ⟨_, _, _, rfl⟩ | ⟨_, _, _, rfl⟩ <;> omega
  have hown := h.own
  rw [List.length_append, List.length_singleton] at hown
  have hset := own_set hown (i := d.length) (by omega) (wv (cur ++ [c]))
  have hg := hown.lt g rfl
  refine ⟨h.below.setCell hg.1 _, ?_, by simp, hr', by have := h.many; simp at this ⊢; omega, fun t ht => ?_⟩
  · rw [List.length_append, List.length_singleton]
    have e : ((d ++ [cur]).map wv).set d.length (wv (cur ++ [c])) = (d ++ [cur ++ [c]]).map wv := by
      rw [List.map_append, List.map_append]
      simp
    rw [← e]; exact hset
  · rcases List.mem_append.1 ht with ht | ht
    · have := h.long t (List.mem_append_left _ ht); omega
    · rw [List.mem_singleton.1 ht]
      have := h.long cur (List.mem_append_right _ (List.mem_singleton.2 rfl))
      simp; omega

/-- The words, the last by itself. -/
theorem SW.last {w0 wr : World} {T : List UInt8} {q : Nat} {sv : Value} {L R : List (List UInt8)} {b : Bool} (h : SW w0 wr T q sv L b R) : ∃ d cur g cap, L = d ++ [cur] ∧ sv = .slice (some ⟨g, 0, none⟩) (d.length + 1) cap ∧
    wr.cell? ⟨g, d.length, none⟩ = some (wv cur) ∧ (∀ i, wr.frozen? ⟨g, i, none⟩ = false) ∧ cur.length ≤ q ∧ d.length + 1 ≤ cap ∧ g < wr.heap.size ∧ d.length ≤ q := by
  refine ⟨L.dropLast, L.getLast h.ne, ?_⟩
  have e := (List.dropLast_concat_getLast h.ne).symm
  have hl : L.length = L.dropLast.length + 1 := by rw [List.length_dropLast]; have := List.length_pos_iff.2 h.ne; omega
  have hown := h.own
  rcases hown.2 with ⟨hv, h0⟩ | ⟨g, cap, cur, hv, hb, hg, h1, _⟩
  · omega
  · subst hv
    refine ⟨g, cap, e, by rw [hl], own_cell hown ?_, own_frozen hown (by omega), h.long _ (List.getLast_mem h.ne), by omega, (hown.lt g rfl).2, by have := h.many; omega⟩
    conv => lhs; rw [e]
    simp

theorem SW.done {w0 wr : World} {T : List UInt8} {sv : Value} {L R : List (List UInt8)} {b : Bool} (h : SW w0 wr T T.length sv L b R) : L = R ∧ b = false := by
  have := h.run
  rw [List.drop_length, sh] at this
  simpa using this
theorem wv_self (s : ByteArray) : wv s.data.toList = .string s := by
  unfold wv
  cases s
  simp
/-- The words, where they lie. -/
theorem SW.end_ {w0 wr : World} {T : List UInt8} {q : Nat} {sv : Value} {b : Bool} {R : List (List UInt8)} {ss : List ByteArray} {n : Nat} (hn : n = ss.length) (h : SW w0 wr T q sv (ss.map fun s => s.data.toList) b R) :
    ∃ g cap, sv = .slice (some ⟨g, 0, none⟩) n cap ∧ g < wr.heap.size ∧ ∀ (i : Nat) (s : ByteArray), ss[i]? = some s → wr.cell? ⟨g, i, none⟩ = some (.string s) := by
  have hown := h.own
  have hne := h.ne
  have hl := List.length_pos_iff.2 hne
  rcases hown.2 with ⟨hv, h0⟩ | ⟨g, cap, cur, hv, hb, hg, h1, _⟩
  · omega
  · subst hv
    refine ⟨g, cap, by rw [List.length_map, ← hn], (hown.lt g rfl).2, fun i s hs => ?_⟩
    rw [← wv_self s]
    exact own_cell hown (by rw [List.getElem?_map, List.getElem?_map, hs]; rfl)
end Go.Proofs.YtpigccnlembfdaaGreatDoor
