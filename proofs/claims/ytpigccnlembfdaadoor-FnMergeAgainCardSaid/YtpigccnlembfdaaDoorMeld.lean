/- JSON values that are right, how many parts they have, and what merging two of them makes; merging once more changes nothing. Plain Lean. Conditions: as each theorem states. -/
import Derived.Test.YtpigccnlembfdaaDoorGo
namespace Go.Proofs.YtpigccnlembfdaaDoor

/-- The value of a key. -/
def at? : List ByteArray → List J → ByteArray → Option J
  | k :: ks, v :: vs, s => if k = s then some v else at? ks vs s
  | _, _, _ => none

theorem bl_total : ∀ x y : List UInt8, Op.bytesLess x y = true ∨ x = y ∨ Op.bytesLess y x = true
  | [], [] => by simp
  | [], _ :: _ => by simp [Op.bytesLess]
  | _ :: _, [] => by simp [Op.bytesLess]
  | a :: x, b :: y => by
    simp only [Op.bytesLess, Bool.or_eq_true, decide_eq_true_eq, Bool.and_eq_true, beq_iff_eq, List.cons.injEq, UInt8.lt_iff_toNat_lt]
    rcases Nat.lt_trichotomy a.toNat b.toNat with h | h | h
    · exact Or.inl (Or.inl h)
    · have e : a = b := UInt8.toNat_inj.1 h
      subst e
      rcases bl_total x y with h1 | h1 | h1
      · exact Or.inl (Or.inr ⟨rfl, h1⟩)
      · exact Or.inr (Or.inl ⟨rfl, h1⟩)
      · exact Or.inr (Or.inr (Or.inr ⟨rfl, h1⟩))
    · exact Or.inr (Or.inr (Or.inl h))
theorem toList_inj {a b : ByteArray} (h : a.toList = b.toList) : a = b := by
  have e : ∀ c : ByteArray, c.toList = c.data.toList := fun c => by rw [ByteArray.toList_eq]
  rw [e, e] at h
  cases a; cases b
  simpa using h

theorem Rising.tail {k : ByteArray} {ks : List ByteArray} (h : Rising (k :: ks)) : Rising ks := fun i s s' h1 h2 => h (i + 1) s s' (by simpa using h1) (by simpa using h2)
theorem Rising.head {k : ByteArray} {ks : List ByteArray} (h : Rising (k :: ks)) {s : ByteArray} (hs : s ∈ ks) : Op.bytesLess k.toList s.toList = true := by
  obtain ⟨i, hi, e⟩ := List.getElem_of_mem hs
  exact h.lt i 0 k s rfl (by simp [e, hi])
theorem Rising.cons {k : ByteArray} {ks : List ByteArray} (h : Rising ks) (hk : ∀ s, ks[0]? = some s → Op.bytesLess k.toList s.toList = true) : Rising (k :: ks) := fun i s s' h1 h2 => by
  cases i with
  | zero => simp at h1 h2; subst h1; exact hk s' (by simpa using h2)
  | succ i => exact h i s s' (by simpa using h1) (by simpa using h2)
theorem rising_nil : Rising [] := fun i s s' h => by simp at h

theorem at_none {ks : List ByteArray} : ∀ {vs : List J} {s : ByteArray}, s ∉ ks → at? ks vs s = none := by
  induction ks with
  | nil => intro vs s _; cases vs <;> rfl
  | cons k ks ih =>
    intro vs s h
    cases vs with
    | nil => rfl
    | cons v vs =>
      simp only [List.mem_cons, not_or] at h
      simp only [at?]
      rw [if_neg (fun e => h.1 e.symm)]
      exact ih h.2
theorem at_mem {ks : List ByteArray} : ∀ {vs : List J} {s : ByteArray} {j : J}, at? ks vs s = some j → s ∈ ks ∧ j ∈ vs := by
  induction ks with
  | nil => intro vs s j h; cases vs <;> cases h
  | cons k ks ih =>
    intro vs s j h
    cases vs with
    | nil => cases h
    | cons v vs =>
      simp only [at?] at h
      split at h
      · cases h; subst_vars; simp
      · obtain ⟨h1, h2⟩ := ih h; simp [h1, h2]
theorem at_iff {ks : List ByteArray} : ∀ {vs : List J} {s : ByteArray} {j : J}, Rising ks → (at? ks vs s = some j ↔ ∃ i : Nat, ks[i]? = some s ∧ vs[i]? = some j) := by
  induction ks with
  | nil =>
    intro vs s j _
    constructor
    · intro h; cases vs <;> cases h
    · rintro ⟨i, h, _⟩; simp at h
  | cons k ks ih =>
    intro vs s j hr
    cases vs with
    | nil =>
      constructor
      · intro h; cases h
      · rintro ⟨i, _, h⟩; simp at h
    | cons v vs =>
      simp only [at?]
      by_cases e : k = s
      · subst e
        rw [if_pos rfl]
        constructor
        · intro h; exact ⟨0, rfl, by simpa using h⟩
        · rintro ⟨i, h1, h2⟩
          have := hr.inj (i := 0) (j := i) (s := k) rfl h1
          subst this; simpa using h2
      · rw [if_neg e, ih hr.tail]
        constructor
        · rintro ⟨i, h1, h2⟩; exact ⟨i + 1, by simpa using h1, by simpa using h2⟩
        · rintro ⟨i, h1, h2⟩
          cases i with
          | zero => simp at h1; exact absurd h1 e
          | succ i => exact ⟨i, by simpa using h1, by simpa using h2⟩
theorem at_some {ks : List ByteArray} : ∀ {vs : List J} {s : ByteArray}, ks.length = vs.length → s ∈ ks → ∃ j, at? ks vs s = some j := by
  induction ks with
  | nil => intro vs s _ h; cases h
  | cons k ks ih =>
    intro vs s hl h
    cases vs with
    | nil => simp at hl
    | cons v vs =>
      simp only [at?]
      by_cases e : k = s
      · exact ⟨v, if_pos e⟩
      · rw [if_neg e]
        exact ih (by simpa using hl) ((List.mem_cons.1 h).resolve_left fun e' => e e'.symm)

/-- Two maps that give the same under every key are one. -/
theorem at_ext : ∀ {ks ks' : List ByteArray} {vs vs' : List J}, Rising ks → Rising ks' → ks.length = vs.length → ks'.length = vs'.length → (∀ s, at? ks vs s = at? ks' vs' s) → ks = ks' ∧ vs = vs' := by
  intro ks
  induction ks with
  | nil =>
    intro ks' vs vs' h1 h2 h3 h4 h
    have : vs = [] := by cases vs <;> simp_all
    subst this
    cases ks' with
    | nil => exact ⟨rfl, by cases vs' <;> simp_all⟩
    | cons k' ks' =>
      obtain ⟨j, hj⟩ := at_some h4 (List.mem_cons_self (a := k') (l := ks'))
      rw [← h k'] at hj; cases hj
  | cons k ks ih =>
    intro ks' vs vs' h1 h2 h3 h4 h
    obtain ⟨v, vs, rfl⟩ : ∃ v r, vs = v :: r := by cases vs <;> simp_all
    cases ks' with
    | nil =>
      have := h k
      simp only [at?] at this
      cases vs' <;> simp at this
    | cons k' ks' =>
      obtain ⟨v', vs', rfl⟩ : ∃ v r, vs' = v :: r := by cases vs' <;> simp_all
      have ek : k = k' := by
        have a1 := h k
        have a2 := h k'
        simp only [at?, if_pos] at a1 a2
        refine Decidable.byContradiction fun ne => ?_
        rw [if_neg (fun e => ne e.symm)] at a1
        rw [if_neg ne] at a2
        have m1 := (at_mem a1.symm).1
        have m2 := (at_mem a2).1
        have b1 := h2.head m1
        have b2 := h1.head m2
        have := bl_trans _ _ _ b1 b2
        rw [bl_irrefl] at this; cases this
      subst ek
      have ev : v = v' := by
        have a1 := h k
        simpa [at?] using a1
      subst ev
      have nk : ∀ {l : List ByteArray}, Rising (k :: l) → k ∉ l := fun hr hm => by
        have := hr.head hm
        rw [bl_irrefl] at this; cases this
      obtain ⟨e1, e2⟩ := ih h1.tail h2.tail (by simpa using h3) (by simpa using h4) (fun s => by
        by_cases e : k = s
        · subst e; rw [at_none (nk h1), at_none (nk h2)]
        · have := h s
          simpa [at?, e] using this)
      exact ⟨by rw [e1], by rw [e2]⟩

/-- A map with one more entry, or with another value under a key. -/
def put : List ByteArray → List J → ByteArray → J → List ByteArray × List J
  | k :: ks, v :: vs, s, j => if k = s then (s :: ks, j :: vs) else if Op.bytesLess s.toList k.toList then (s :: k :: ks, j :: v :: vs) else (k :: (put ks vs s j).1, v :: (put ks vs s j).2)
  | _, _, s, j => ([s], [j])
theorem put_length : ∀ (ks : List ByteArray) (vs : List J) (s : ByteArray) (j : J), ks.length = vs.length → (put ks vs s j).1.length = (put ks vs s j).2.length
  | [], vs, s, j, _ => by cases vs <;> simp [put]
  | k :: ks, [], s, j, h => by simp at h
  | k :: ks, v :: vs, s, j, h => by
    simp only [put]
    split
    · simpa using h
    · split
      · simpa using h
      · simpa using put_length ks vs s j (by simpa using h)
theorem at_put : ∀ (ks : List ByteArray) (vs : List J) (s : ByteArray) (j : J) (s' : ByteArray), ks.length = vs.length → at? (put ks vs s j).1 (put ks vs s j).2 s' = if s = s' then some j else at? ks vs s'
  | [], vs, s, j, s', h => by
    obtain rfl : vs = [] := by cases vs <;> simp_all
    simp [put, at?]
  | k :: ks, [], s, j, s', h => by simp at h
  | k :: ks, v :: vs, s, j, s', h => by
    simp only [put]
    split
    · rename_i e; subst e
      simp only [at?]
      try (split <;> rfl)
    · rename_i e
      split
      · simp only [at?]
      · simp only [at?]
        rw [at_put ks vs s j s' (by simpa using h)]
        by_cases e1 : k = s'
        · subst e1
          rw [if_pos rfl, if_pos rfl, if_neg (fun e' => e e'.symm)]
        · rw [if_neg e1, if_neg e1]
theorem put_head : ∀ (ks : List ByteArray) (vs : List J) (s : ByteArray) (j : J) (t : ByteArray), ks.length = vs.length → (put ks vs s j).1[0]? = some t → t = s ∨ ks[0]? = some t
  | [], vs, s, j, t, h, ht => by
    obtain rfl : vs = [] := by cases vs <;> simp_all
    simp [put] at ht; exact Or.inl ht.symm
  | k :: ks, [], s, j, t, h, _ => by simp at h
  | k :: ks, v :: vs, s, j, t, h, ht => by
    simp only [put] at ht
    split at ht
    · simp at ht; exact Or.inl ht.symm
    · split at ht
      · simp at ht; exact Or.inl ht.symm
      · simp at ht; exact Or.inr (by simp [ht])
theorem put_rising : ∀ (ks : List ByteArray) (vs : List J) (s : ByteArray) (j : J), ks.length = vs.length → Rising ks → Rising (put ks vs s j).1
  | [], vs, s, j, h, _ => by
    obtain rfl : vs = [] := by cases vs <;> simp_all
    exact Rising.cons rising_nil (by simp)
  | k :: ks, [], s, j, h, _ => by simp at h
  | k :: ks, v :: vs, s, j, h, hr => by
    simp only [put]
    split
    · rename_i e; subst e; exact hr
    · rename_i e
      split
      · rename_i e2
        exact Rising.cons hr (by intro t ht; simp at ht; subst ht; exact e2)
      · rename_i e2
        refine Rising.cons (put_rising ks vs s j (by simpa using h) hr.tail) (fun t ht => ?_)
        rcases put_head ks vs s j t (by simpa using h) ht with rfl | h1
        · rcases bl_total k.toList t.toList with h2 | h2 | h2
          · exact h2
          · exact absurd (toList_inj h2) e
          · exact absurd h2 e2
        · exact hr.head (List.mem_of_getElem? h1)
theorem put_mem : ∀ (ks : List ByteArray) (vs : List J) (s : ByteArray) (j : J), (∀ t ∈ (put ks vs s j).1, t = s ∨ t ∈ ks) ∧ (∀ t ∈ (put ks vs s j).2, t = j ∨ t ∈ vs)
  | [], vs, s, j => by cases vs <;> simp [put]
  | k :: ks, [], s, j => by simp [put]
  | k :: ks, v :: vs, s, j => by
    obtain ⟨h1, h2⟩ := put_mem ks vs s j
    simp only [put]
    split
    · simp
      constructor <;> intro t ht <;> simp [ht]
    · split
      · simp
      · simp
        constructor
        · intro t ht; rcases h1 t ht with h | h <;> simp [h]
        · intro t ht; rcases h2 t ht with h | h <;> simp [h]

/-- One map's entries put into another. -/
def putAll (ks : List ByteArray) (vs : List J) : List ByteArray → List J → List ByteArray × List J
  | k :: ks', v :: vs' => put (putAll ks vs ks' vs').1 (putAll ks vs ks' vs').2 k v
  | _, _ => (ks, vs)
theorem putAll_length (ks : List ByteArray) (vs : List J) (h : ks.length = vs.length) : ∀ (ks' : List ByteArray) (vs' : List J), (putAll ks vs ks' vs').1.length = (putAll ks vs ks' vs').2.length
  | [], vs' => by cases vs' <;> simpa [putAll] using h
  | k :: ks', [] => by simpa [putAll] using h
  | k :: ks', v :: vs' => by simp only [putAll]; exact put_length _ _ _ _ (putAll_length ks vs h ks' vs')
theorem at_putAll (ks : List ByteArray) (vs : List J) (h : ks.length = vs.length) (s : ByteArray) : ∀ (ks' : List ByteArray) (vs' : List J), at? (putAll ks vs ks' vs').1 (putAll ks vs ks' vs').2 s = match at? ks' vs' s with | some j => some j | none => at? ks vs s
  | [], vs' => by cases vs' <;> simp [putAll, at?]
  | k :: ks', [] => by simp [putAll, at?]
  | k :: ks', v :: vs' => by
    simp only [putAll, at?]
    rw [at_put _ _ _ _ _ (putAll_length ks vs h ks' vs'), at_putAll ks vs h s ks' vs']
    by_cases e : k = s
    · rw [if_pos e, if_pos e]
    · rw [if_neg e, if_neg e]
theorem putAll_rising (ks : List ByteArray) (vs : List J) (h : ks.length = vs.length) (hr : Rising ks) : ∀ (ks' : List ByteArray) (vs' : List J), Rising (putAll ks vs ks' vs').1
  | [], vs' => by cases vs' <;> simpa [putAll] using hr
  | k :: ks', [] => by simpa [putAll] using hr
  | k :: ks', v :: vs' => by simp only [putAll]; exact put_rising _ _ _ _ (putAll_length ks vs h ks' vs') (putAll_rising ks vs h hr ks' vs')
theorem putAll_mem (ks : List ByteArray) (vs : List J) : ∀ (ks' : List ByteArray) (vs' : List J), (∀ t ∈ (putAll ks vs ks' vs').1, t ∈ ks' ∨ t ∈ ks) ∧ (∀ t ∈ (putAll ks vs ks' vs').2, t ∈ vs' ∨ t ∈ vs)
  | [], vs' => by cases vs' <;> simp [putAll] <;> intros <;> simp [*]
  | k :: ks', [] => by simp [putAll]; intros; simp [*]
  | k :: ks', v :: vs' => by
    obtain ⟨h1, h2⟩ := putAll_mem ks vs ks' vs'
    obtain ⟨g1, g2⟩ := put_mem (putAll ks vs ks' vs').1 (putAll ks vs ks' vs').2 k v
    simp only [putAll]
    constructor
    · intro t ht
      rcases g1 t ht with h | h
      · simp [h]
      · rcases h1 t h with h | h <;> simp [h]
    · intro t ht
      rcases g2 t ht with h | h
      · simp [h]
      · rcases h2 t h with h | h <;> simp [h]

mutual
/-- What the second value, merged into the first, makes. -/
def meld (x : J) : J → J
  | .map ks' vs' => match x with
    | .map ks vs => .map (putAll ks vs ks' (meldAll ks vs ks' vs')).1 (putAll ks vs ks' (meldAll ks vs ks' vs')).2
    | _ => .map ks' vs'
  | .null => .null
  | .bool b => .bool b
  | .int n => .int n
  | .flt n => .flt n
  | .str n => .str n
  | .list n => .list n
termination_by y => SizeOf.sizeOf y
def meldAll (ks : List ByteArray) (vs : List J) : List ByteArray → List J → List J
  | k :: ks', v :: vs' => (match at? ks vs k with | some x => meld x v | none => v) :: meldAll ks vs ks' vs'
  | _, _ => []
termination_by _ vs' => SizeOf.sizeOf vs'
end

/-- The value under a key that both maps, or only the second one, have. -/
def over (x : Option J) (v : J) : J := match x with | some x => meld x v | none => v
theorem meldAll_cons (ks : List ByteArray) (vs : List J) (k : ByteArray) (v : J) (ks' : List ByteArray) (vs' : List J) : meldAll ks vs (k :: ks') (v :: vs') = over (at? ks vs k) v :: meldAll ks vs ks' vs' := by
  rw [meldAll]; rfl
theorem meldAll_length (ks : List ByteArray) (vs : List J) : ∀ (ks' : List ByteArray) (vs' : List J), ks'.length = vs'.length → (meldAll ks vs ks' vs').length = ks'.length
  | [], vs', _ => by rw [meldAll]; rfl; simp
  | k :: ks', [], h => by simp at h
  | k :: ks', v :: vs', h => by rw [meldAll_cons]; simpa using meldAll_length ks vs ks' vs' (by simpa using h)
theorem at_meldAll (ks : List ByteArray) (vs : List J) (s : ByteArray) : ∀ (ks' : List ByteArray) (vs' : List J), at? ks' (meldAll ks vs ks' vs') s = (at? ks' vs' s).map (over (at? ks vs s))
  | [], vs' => by simp [at?]
  | k :: ks', [] => by rw [meldAll] <;> simp [at?]
  | k :: ks', v :: vs' => by
    rw [meldAll_cons]
    simp only [at?]
    by_cases e : k = s
    · subst e; simp
    · rw [if_neg e, if_neg e, at_meldAll ks vs s ks' vs']
theorem meld_map (ks : List ByteArray) (vs : List J) (ks' : List ByteArray) (vs' : List J) : meld (.map ks vs) (.map ks' vs') = .map (putAll ks vs ks' (meldAll ks vs ks' vs')).1 (putAll ks vs ks' (meldAll ks vs ks' vs')).2 := by rw [meld]
/-- A merged map under a key. -/
theorem at_meld (ks : List ByteArray) (vs : List J) (h : ks.length = vs.length) (ks' : List ByteArray) (vs' : List J) (s : ByteArray) :
    at? (putAll ks vs ks' (meldAll ks vs ks' vs')).1 (putAll ks vs ks' (meldAll ks vs ks' vs')).2 s = match at? ks' vs' s with | some v => some (over (at? ks vs s) v) | none => at? ks vs s := by
  rw [at_putAll ks vs h, at_meldAll]
  cases at? ks' vs' s <;> rfl
/-- Where one of two is no map. -/
theorem meld_other (x y : J) (h : ∀ ks vs ks' vs', x = .map ks vs → y = .map ks' vs' → False) : meld x y = y := by
  cases y with
  | map ks' vs' =>
    rw [meld]
    exact fun ks vs e => h _ _ _ _ e rfl
  | _ => rw [meld]
theorem map_or (x : J) : (∃ ks vs, x = .map ks vs) ∨ ∀ ks vs, x ≠ .map ks vs := by cases x <;> simp

mutual
/-- The right JSON values. -/
def JFine : J → Prop
  | .null => True
  | .bool _ => True
  | .int n => -9007199254740992 ≤ n ∧ n ≤ 9007199254740992
  | .flt b => ∃ h, C2 h ∧ h.tmod 2 ≠ 0 ∧ b = hbits h
  | .str s => Lib.validD s.data.toList = true
  | .list l => JFineAll l
  | .map ks vs => Keys ks ∧ ks.length = vs.length ∧ JFineAll vs
def JFineAll : List J → Prop
  | [] => True
  | x :: r => JFine x ∧ JFineAll r
end
theorem jfineAll_mem : ∀ {l : List J}, JFineAll l → ∀ x ∈ l, JFine x
  | [], _, x, hx => by cases hx
  | y :: r, h, x, hx => by
    unfold JFineAll at h
    rcases List.mem_cons.1 hx with rfl | hx
    · exact h.1
    · exact jfineAll_mem h.2 x hx
theorem jfineAll_of : ∀ {l : List J}, (∀ x ∈ l, JFine x) → JFineAll l
  | [], _ => by unfold JFineAll; trivial
  | y :: r, h => by unfold JFineAll; exact ⟨h y (List.mem_cons_self ..), jfineAll_of fun x hx => h x (List.mem_cons_of_mem _ hx)⟩
mutual
theorem V.Good.fine : ∀ {x : V}, x.Good → JFine x.toJ
  | .mk k h t aL cL l aK cK ks aV cV vs, hx => by
    unfold V.Good at hx
    obtain ⟨h1, h2, h3, h4, h5, h6⟩ := hx
    unfold V.toJ
    have r1 := GoodAll.fine h5
    have r2 := GoodAll.fine h6
    split
    · unfold JFine; trivial
    · split
      · unfold JFine; trivial
      · split
        · unfold JFine; trivial
        · split
          · split
            · rename_i he
              have := Int.mul_tdiv_add_tmod h 2
              have := h2.1
              have := h2.2.1
              unfold JFine; omega
            · rename_i he
              unfold JFine; exact ⟨h, h2, he, rfl⟩
          · split
            · unfold JFine; exact h3
            · split
              · unfold JFine; exact r1
              · unfold JFine; exact ⟨h4, by rw [toJAll_length]; exact h1.2.2.2.2.2.2, r2⟩
theorem GoodAll.fine : ∀ {l : List V}, GoodAll l → JFineAll (toJAll l)
  | [], _ => by unfold toJAll JFineAll; trivial
  | x :: r, h => by
    unfold GoodAll at h
    unfold toJAll JFineAll
    exact ⟨V.Good.fine h.1, GoodAll.fine h.2⟩
end

mutual
/-- What is merged is right. -/
theorem meld_fine : ∀ (y x : J), JFine x → JFine y → JFine (meld x y)
  | .map ks' vs', x, hx, hy => by
    rcases map_or x with ⟨ks, vs, rfl⟩ | hn
    · skip
      rw [meld_map]
      unfold JFine at hx hy ⊢
      have hm := putAll_mem ks vs ks' (meldAll ks vs ks' vs')
      refine ⟨⟨fun s hs => ?_, putAll_rising ks vs hx.2.1 hx.1.rising _ _⟩, putAll_length ks vs hx.2.1 _ _, jfineAll_of fun j hj => ?_⟩
      · rcases hm.1 s hs with h | h
        · exact hy.1.1 s h
        · exact hx.1.1 s h
      · rcases hm.2 j hj with h | h
        · exact jfineAll_mem (meldAll_fine ks vs (fun s j h => jfineAll_mem hx.2.2 j (at_mem h).2) ks' vs' hy.2.2) j h
        · exact jfineAll_mem hx.2.2 j h
    · rw [meld_other x (.map ks' vs') (fun _ _ _ _ h _ => hn _ _ h)]; exact hy
  | .null, x, _, hy => by rw [meld]; exact hy
  | .bool b, x, _, hy => by rw [meld]; exact hy
  | .int n, x, _, hy => by rw [meld]; exact hy
  | .flt n, x, _, hy => by rw [meld]; exact hy
  | .str n, x, _, hy => by rw [meld]; exact hy
  | .list n, x, _, hy => by rw [meld]; exact hy
theorem meldAll_fine (ks : List ByteArray) (vs : List J) (hl : ∀ s j, at? ks vs s = some j → JFine j) : ∀ (ks' : List ByteArray) (vs' : List J), JFineAll vs' → JFineAll (meldAll ks vs ks' vs')
  | [], vs', _ => by rw [meldAll]; unfold JFineAll; trivial; simp
  | k :: ks', [], _ => by rw [meldAll]; unfold JFineAll; trivial; simp
  | k :: ks', v :: vs', h => by
    rw [meldAll_cons]
    unfold JFineAll at h ⊢
    refine ⟨?_, meldAll_fine ks vs hl ks' vs' h.2⟩
    cases ha : at? ks vs k with
    | none => exact h.1
    | some x => exact meld_fine v x (hl k x ha) h.1
end

mutual
/-- Merging once more changes nothing. -/
theorem meld_self : ∀ (y : J), JFine y → meld y y = y
  | .map ks vs, h => by
    rw [meld_map]
    unfold JFine at h
    obtain ⟨e1, e2⟩ := at_ext (putAll_rising ks vs h.2.1 h.1.rising ks (meldAll ks vs ks vs)) h.1.rising (putAll_length ks vs h.2.1 _ _) h.2.1 (fun s => by
      rw [at_meld ks vs h.2.1]
      cases ha : at? ks vs s with
      | none => rfl
      | some v => exact congrArg some (meld_selfAll vs h.2.2 v (at_mem ha).2))
    rw [e1, e2]
  | .null, _ => by rw [meld]
  | .bool b, _ => by rw [meld]
  | .int n, _ => by rw [meld]
  | .flt n, _ => by rw [meld]
  | .str n, _ => by rw [meld]
  | .list n, _ => by rw [meld]
theorem meld_selfAll : ∀ (vs : List J), JFineAll vs → ∀ v ∈ vs, meld v v = v
  | [], _, v, hv => by cases hv
  | y :: r, h, v, hv => by
    unfold JFineAll at h
    rcases List.mem_cons.1 hv with e | hv
    · rw [e]; exact meld_self y h.1
    · exact meld_selfAll r h.2 v hv
end
mutual
theorem meld_again : ∀ (y x : J), JFine x → JFine y → meld (meld x y) y = meld x y
  | .map ks' vs', x, hx, hy => by
    rcases map_or x with ⟨ks, vs, rfl⟩ | hn
    · skip
      have hm := meld_fine (.map ks' vs') (.map ks vs) hx hy
      rw [meld_map] at hm ⊢
      rw [meld_map]
      have hl := putAll_length ks vs (by unfold JFine at hx; exact hx.2.1) ks' (meldAll ks vs ks' vs')
      have hr := putAll_rising ks vs (by unfold JFine at hx; exact hx.2.1) (by unfold JFine at hx; exact hx.1.rising) ks' (meldAll ks vs ks' vs')
      have hat := at_meld ks vs (by unfold JFine at hx; exact hx.2.1) ks' vs'
      generalize (putAll ks vs ks' (meldAll ks vs ks' vs')).1 = ms at *
      generalize (putAll ks vs ks' (meldAll ks vs ks' vs')).2 = ws at *
      obtain ⟨e1, e2⟩ := at_ext (putAll_rising ms ws hl hr ks' (meldAll ms ws ks' vs')) hr (putAll_length ms ws hl _ _) hl (fun s => by
        rw [at_meld ms ws hl, hat]
        cases ha : at? ks' vs' s with
        | none => rfl
        | some v =>
          show some (meld (over (at? ks vs s) v) v) = some (over (at? ks vs s) v)
          unfold JFine at hx hy
          cases hb : at? ks vs s with
          | none => exact congrArg some (meld_selfAll vs' hy.2.2 v (at_mem ha).2)
          | some z => exact congrArg some (meld_againAll vs' hy.2.2 v (at_mem ha).2 z (jfineAll_mem hx.2.2 z (at_mem hb).2)))
      rw [e1, e2]
    · rw [meld_other x (.map ks' vs') (fun _ _ _ _ h _ => hn _ _ h)]; exact meld_self (.map ks' vs') hy
  | .null, x, _, _ => by rw [meld, meld]
  | .bool b, x, _, _ => by rw [meld, meld]
  | .int n, x, _, _ => by rw [meld, meld]
  | .flt n, x, _, _ => by rw [meld, meld]
  | .str n, x, _, _ => by rw [meld, meld]
  | .list n, x, _, _ => by rw [meld, meld]
theorem meld_againAll : ∀ (vs : List J), JFineAll vs → ∀ v ∈ vs, ∀ z, JFine z → meld (meld z v) v = meld z v
  | [], _, v, hv, _, _ => by cases hv
  | y :: r, h, v, hv, z, hz => by
    unfold JFineAll at h
    rcases List.mem_cons.1 hv with e | hv
    · rw [e]; exact meld_again y z hz h.1
    · exact meld_againAll r h.2 v hv z hz
end

mutual
/-- How many values a value holds, itself one of them. -/
def J.parts : J → Nat
  | .list l => jpartsAll l + 1
  | .map _ vs => jpartsAll vs + 1
  | .null => 1
  | .bool _ => 1
  | .int _ => 1
  | .flt _ => 1
  | .str _ => 1
def jpartsAll : List J → Nat
  | [] => 0
  | x :: r => x.parts + jpartsAll r
end
theorem put_parts : ∀ (ks : List ByteArray) (vs : List J) (s : ByteArray) (j : J), ks.length = vs.length → Rising ks → jpartsAll (put ks vs s j).2 + (match at? ks vs s with | some x => x.parts | none => 0) = jpartsAll vs + j.parts
  | [], vs, s, j, h, _ => by
    obtain rfl : vs = [] := by cases vs <;> simp_all
    simp [put, at?, jpartsAll]
  | k :: ks, [], s, j, h, _ => by simp at h
  | k :: ks, v :: vs, s, j, h, hr => by
    simp only [put, at?]
    by_cases e : k = s
    · rw [if_pos e, if_pos e]
      simp only [jpartsAll]; omega
    · rw [if_neg e, if_neg e]
      split
      · rename_i e2
        have : s ∉ ks := fun hm => by
          have := bl_trans _ _ _ e2 (hr.head hm)
          rw [bl_irrefl] at this; cases this
        rw [at_none this]
        simp only [jpartsAll]; omega
      · have := put_parts ks vs s j (by simpa using h) hr.tail
        simp only [jpartsAll]; omega
mutual
theorem meld_parts : ∀ (y x : J), JFine x → JFine y → (meld x y).parts ≤ x.parts + y.parts
  | .map ks' vs', x, hx, hy => by
    rcases map_or x with ⟨ks, vs, rfl⟩ | hn
    · skip
      rw [meld_map]
      unfold JFine at hx hy
      have := meldAll_parts ks vs hx.2.1 hx.1.rising (fun s j h => jfineAll_mem hx.2.2 j (at_mem h).2) ks' vs' hy.2.1 hy.1.rising hy.2.2
      simp only [J.parts]; omega
    · rw [meld_other x (.map ks' vs') (fun _ _ _ _ h _ => hn _ _ h)]; omega
  | .null, x, _, _ => by rw [meld]; omega
  | .bool b, x, _, _ => by rw [meld]; omega
  | .int n, x, _, _ => by rw [meld]; omega
  | .flt n, x, _, _ => by rw [meld]; omega
  | .str n, x, _, _ => by rw [meld]; omega
  | .list n, x, _, _ => by rw [meld]; omega
theorem meldAll_parts (ks : List ByteArray) (vs : List J) (hl : ks.length = vs.length) (hr : Rising ks) (hf : ∀ s j, at? ks vs s = some j → JFine j) : ∀ (ks' : List ByteArray) (vs' : List J), ks'.length = vs'.length → Rising ks' → JFineAll vs' → jpartsAll (putAll ks vs ks' (meldAll ks vs ks' vs')).2 ≤ jpartsAll vs + jpartsAll vs'
  | [], vs', _, _, _ => by simp [putAll]
  | k :: ks', [], h, _, _ => by simp at h
  | k :: ks', v :: vs', h, hr', hv => by
    rw [meldAll_cons]
    simp only [putAll]
    unfold JFineAll at hv
    have h1 := meldAll_parts ks vs hl hr hf ks' vs' (by simpa using h) hr'.tail hv.2
    have h2 := put_parts _ _ k (over (at? ks vs k) v) (putAll_length ks vs hl ks' (meldAll ks vs ks' vs')) (putAll_rising ks vs hl hr ks' (meldAll ks vs ks' vs'))
    have hk : at? ks' vs' k = none := at_none fun hm => by
      have := hr'.head hm
      rw [bl_irrefl] at this; cases this
    rw [at_meld ks vs hl, hk] at h2
    simp only [jpartsAll]
    cases ha : at? ks vs k with
    | none =>
      rw [ha] at h2
      simp only [over] at h2 ⊢
      omega
    | some x =>
      rw [ha] at h2
      have := meld_parts v x (hf k x ha) hv.1
      simp only [over] at h2 ⊢
      omega
end
end Go.Proofs.YtpigccnlembfdaaDoor
