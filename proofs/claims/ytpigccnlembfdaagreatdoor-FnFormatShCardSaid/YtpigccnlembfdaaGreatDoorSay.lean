/- What @sh says of a tree, and the walks of funcToSh and ZzSh at what it stands for. Conditions: as each theorem states. -/
import Derived.Test.YtpigccnlembfdaaGreatDoorJoin
import Derived.Test.YtpigccnlembfdaaGreatDoorGo
namespace Go.Proofs.YtpigccnlembfdaaGreatDoor
open Go.RowKit Go.Deep

/-- The text of a leaf. -/
def V.word : V → Option (List UInt8)
  | .mk k h t _ _ _ _ _ _ _ _ _ =>
    if k = 0 then some [110, 117, 108, 108] else if k = 1 then some [102, 97, 108, 115, 101] else if k = 2 then some [116, 114, 117, 101]
    else if k = 3 then some (if h.tmod 2 = 0 then Lib.itoa (h.tdiv 2) else halfText h)
    else if k = 4 then some (shq t.data.toList) else none
/-- The texts till the first element that has none, and whether there is none such. -/
def texts : List V → List (List UInt8) × Bool
  | [] => ([], true)
  | x :: r => match x.word with
    | some t => (t :: (texts r).1, (texts r).2)
    | none => ([], false)
/-- What is joined. -/
def V.elems (x : V) : List V := if x.kind = 5 then x.list else [x]
theorem texts_len : ∀ l : List V, (texts l).1.length ≤ l.length ∧ ((texts l).2 = true → (texts l).1.length = l.length) ∧ ((texts l).2 = false → ∃ x, l[(texts l).1.length]? = some x ∧ x.word = none)
  | [] => ⟨Nat.le_refl _, fun _ => rfl, fun h => by cases h⟩
  | x :: r => by
    obtain ⟨h1, h2, h3⟩ := texts_len r
    cases hx : x.word with
    | none =>
      have e : texts (x :: r) = ([], false) := by simp only [texts, hx]
      rw [e]
      exact ⟨Nat.zero_le _, (fun h => by cases h), fun _ => ⟨x, rfl, hx⟩⟩
    | some t =>
      have e : texts (x :: r) = (t :: (texts r).1, (texts r).2) := by simp only [texts, hx]
      rw [e]
      exact ⟨by simpa using h1, fun h => by simpa using h2 h, fun h => by simpa using h3 h⟩
theorem texts_at : ∀ (l : List V) (i : Nat) (t : List UInt8), (texts l).1[i]? = some t → ∃ x, l[i]? = some x ∧ x.word = some t
  | [], i, t, h => by simp [texts] at h
  | x :: r, i, t, h => by
    cases hx : x.word with
    | none =>
      have e : texts (x :: r) = ([], false) := by simp only [texts, hx]
      rw [e] at h; simp at h
    | some t' =>
      have e : texts (x :: r) = (t' :: (texts r).1, (texts r).2) := by simp only [texts, hx]
      rw [e] at h
      cases i with
      | zero => simp at h; subst h; exact ⟨x, rfl, hx⟩
      | succ i => exact texts_at r i t (by simpa using h)
theorem toJAll_get : ∀ (l : List V) (i : Nat), (toJAll l)[i]? = l[i]?.map V.toJ
  | [], i => by simp [toJAll]
  | x :: r, 0 => by simp [toJAll]
  | x :: r, i + 1 => by simp [toJAll, toJAll_get r i]
theorem odd_of {h : Int} (ho : ¬ h.tmod 2 = 0) : h % 2 = 1 := by
  have h1 : ¬ (2 : Int) ∣ h := fun hd => ho (Int.dvd_iff_tmod_eq_zero.1 hd)
  have h2 : h % 2 ≠ 0 := fun he => h1 (Int.dvd_of_emod_eq_zero he)
  omega
theorem half_of {h : Int} (h1 : -18014398509481984 ≤ h) (h2 : h ≤ 18014398509481984) : -9223372036854775808 < h.tdiv 2 ∧ h.tdiv 2 < 9223372036854775808 := by
  have := Int.tdiv_mul_add_tmod h 2 |>.symm
  have h3 := Int.tmod_lt_of_pos h (show (0 : Int) < 2 by decide)
  have h4 : -2 < h.tmod 2 := by
    have := Int.lt_tmod_of_pos h (show (0 : Int) < 2 by decide)
    omega
  omega
theorem rep_word {w : World} {S : Nat → Prop} {x : V} {u : Value} (hr : Rep w S x.toJ u) (hg : x.Good) (hs : x.text.size ≤ 1000000) : (∀ t, x.word = some t → Item u t) ∧ (x.word = none → Bad u) := by
  obtain ⟨k, h, t, aL, cL, l, aK, cK, ks, aV, cV, vs⟩ := x
  unfold V.Good at hg
  obtain ⟨hc1, hc2, -⟩ := hg
  obtain ⟨q1, q2, q3⟩ := hc2
  simp only [V.word, V.toJ, V.text] at hr hs ⊢
  by_cases h0 : k = 0
  · rw [if_pos h0] at hr ⊢
    unfold Rep at hr; subst hr
    exact ⟨(fun t ht => by cases ht; exact .nil), (fun h => by cases h)⟩
  rw [if_neg h0] at hr ⊢
  by_cases h1 : k = 1
  · rw [if_pos h1] at hr ⊢
    unfold Rep at hr; subst hr
    exact ⟨(fun t ht => by cases ht; exact .no), (fun h => by cases h)⟩
  rw [if_neg h1] at hr ⊢
  by_cases h2 : k = 2
  · rw [if_pos h2] at hr ⊢
    unfold Rep at hr; subst hr
    exact ⟨(fun t ht => by cases ht; exact .yes), (fun h => by cases h)⟩
  rw [if_neg h2] at hr ⊢
  by_cases h3 : k = 3
  · rw [if_pos h3] at hr ⊢
    by_cases he : h.tmod 2 = 0
    · rw [if_pos he] at hr ⊢
      unfold Rep at hr; obtain ⟨rfl, -⟩ := hr
      have hb := half_of q1 q2
      exact ⟨(fun t ht => by cases ht; exact .int _ hb.1 hb.2), (fun h => by cases h)⟩
    · rw [if_neg he] at hr ⊢
      unfold Rep at hr; subst hr
      exact ⟨(fun t ht => by cases ht; exact .half h (odd_of he) (q3.resolve_left he).1 (q3.resolve_left he).2), (fun h => by cases h)⟩
  rw [if_neg h3] at hr ⊢
  by_cases h4 : k = 4
  · rw [if_pos h4] at hr ⊢
    unfold Rep at hr; obtain ⟨rfl, -⟩ := hr
    exact ⟨(fun t ht => by cases ht; exact .str _ hs), (fun h => by cases h)⟩
  rw [if_neg h4] at hr ⊢
  by_cases h5 : k = 5
  · rw [if_pos h5] at hr
    unfold Rep at hr; obtain ⟨A, c, us, rfl, -⟩ := hr
    exact ⟨(fun t ht => by cases ht), fun _ => .list _⟩
  · rw [if_neg h5] at hr
    unfold Rep at hr; obtain ⟨b, m, us, rfl, -⟩ := hr
    exact ⟨(fun t ht => by cases ht), fun _ => .map _⟩
/-- What ZzSh leaves. -/
def SayPost (l : List V) (w : World) (e : Ending) (w' : World) : Prop := Below w.heap.size w w' ∧
  (((texts l).2 = true ∧ e = .returned (.iface 9 (.string (strL (Lib.join (texts l).1 [32]))))) ∨ ((texts l).2 = false ∧ ∃ p, e = .returned (.iface 129 (.pointer (some p)))))
theorem say_of {l : List V} {us : List Value} {w : World} {e : Ending} {w' : World} (hl : us.length = l.length) (h : JoinPost us.length (texts l).1 w e w') : SayPost l w e w' := by
  obtain ⟨h1, h2, h3⟩ := texts_len l
  refine ⟨h.1, ?_⟩
  cases hb : (texts l).2 with
  | true =>
    have := h2 hb
    rcases h.2 with ⟨_, he⟩ | ⟨hlt, _⟩
    · exact Or.inl ⟨rfl, he⟩
    · omega
  | false =>
    obtain ⟨x, hx, _⟩ := h3 hb
    have := (List.getElem?_eq_some_iff.1 hx).1
    rcases h.2 with ⟨hlt, _⟩ | ⟨_, he⟩
    · omega
    · exact Or.inr ⟨rfl, he⟩
/-- formatJoin at what a row of trees stands for. -/
theorem join_row (w : World) (S : Nat → Prop) (A : Option Addr) (c : Nat) (l : List V) (us : List Value) (hl : us.length = l.length) (hn : l.length ≤ 1000) (hg : ∀ x ∈ l, x.Good ∧ x.text.size ≤ 1000000)
    (hrep : ∀ (i : Nat) (x : V) (u : Value), l[i]? = some x → us[i]? = some u → Rep w S x.toJ u) (hcells : ∀ (i : Nat) (u : Value), us[i]? = some u → ∃ ad, A = some ad ∧ ad.block < w.heap.size ∧ w.cell? (ad.add i) = some u) :
    Calls Tryz.prog 60 #[.string ⟨#[115, 104]⟩, .iface 66 (.slice A us.length c), .string ⟨#[32]⟩, .func (.func 61) #[] #[]] w (SayPost l w) := by
  obtain ⟨h1, h2, h3⟩ := texts_len l
  have hget : ∀ (i : Nat) (x : V), l[i]? = some x → ∃ u, us[i]? = some u := fun i x hx => ⟨_, List.getElem?_eq_getElem (by rw [hl]; exact (List.getElem?_eq_some_iff.1 hx).1)⟩
  refine (join_items w A c us (texts l).1 (by omega) (by omega) (fun i t ht => ?_) ?_ hcells).mono fun e w' h => say_of hl h
  · obtain ⟨x, hx, hw⟩ := texts_at l i t ht
    obtain ⟨u, hu⟩ := hget i x hx
    have hm := hg x (List.mem_of_getElem? hx)
    exact ⟨u, hu, (rep_word (hrep i x u hx hu) hm.1 hm.2).1 t hw⟩
  · cases hb : (texts l).2 with
    | true => exact Or.inl (by rw [h2 hb, hl])
    | false =>
      obtain ⟨x, hx, hw⟩ := h3 hb
      obtain ⟨u, hu⟩ := hget _ x hx
      have hm := hg x (List.mem_of_getElem? hx)
      exact Or.inr ⟨u, hu, (rep_word (hrep _ x u hx hu) hm.1 hm.2).2 hw⟩
set_option maxRecDepth 100000 in
theorem sh_list (w : World) (S : Nat → Prop) (A : Option Addr) (c : Nat) (l : List V) (us : List Value) (hl : us.length = l.length) (hn : l.length ≤ 1000) (hg : ∀ x ∈ l, x.Good ∧ x.text.size ≤ 1000000)
    (hrep : ∀ (i : Nat) (x : V) (u : Value), l[i]? = some x → us[i]? = some u → Rep w S x.toJ u) (hcells : ∀ (i : Nat) (u : Value), us[i]? = some u → ∃ ad, A = some ad ∧ ad.block < w.heap.size ∧ w.cell? (ad.add i) = some u) :
    Calls Tryz.prog 46 #[.iface 66 (.slice A us.length c)] w (SayPost l w) := by
  have HF := Lib.hid (join_row w S A c l us hl hn hg hrep hcells)
  clear hcells hn hg hrep hl
  generalize us.length = n at *
  go_enter Tryz.func46, Tryz.ntmps46
  go_wp2_with fail
  refine HF.out.mono ?_
  rintro e w2 ⟨hb2, ⟨ht, rfl⟩ | ⟨ht, p, rfl⟩⟩
  · go_wp2_with fail
    go_ret
    exact ⟨hb2, Or.inl ⟨ht, rfl⟩⟩
  · go_wp2_with fail
    go_ret
    exact ⟨hb2, Or.inr ⟨ht, p, rfl⟩⟩
set_option maxRecDepth 100000 in
theorem sh_one (w : World) (S : Nat → Prop) (x : V) (u : Value) (hg : x.Good) (hs : x.text.size ≤ 1000000) (hr : Rep w S x.toJ u) (hk : x.kind ≠ 5) :
    Calls Tryz.prog 46 #[u] w (SayPost [x] w) := by
  have hW := rep_word hr hg hs
  have HF : Hid (∀ w1, Below w.heap.size w w1 → w.heap.size < w1.heap.size → w1.cell? ⟨w.heap.size, 0, none⟩ = some u → Calls Tryz.prog 60 #[.string ⟨#[115, 104]⟩, .iface 66 (.slice (some ⟨w.heap.size, 0, none⟩) 1 1), .string ⟨#[32]⟩, .func (.func 61) #[] #[]] w1 (SayPost [x] w1)) := Lib.hid fun w1 hb hlt hc => by
    obtain ⟨h1, h2, h3⟩ := texts_len [x]
    have := (join_items w1 (some ⟨w.heap.size, 0, none⟩) 1 [u] (texts [x]).1 (by simp) h1 (fun i t ht => by
      obtain ⟨y, hy, hw⟩ := texts_at [x] i t ht
      obtain rfl : i = 0 := by rcases i with _ | i; rfl; simp at hy
      obtain rfl : x = y := by simpa using hy
      exact ⟨u, rfl, hW.1 t hw⟩) (by
      cases hb : (texts [x]).2 with
      | true => exact Or.inl (h2 hb)
      | false =>
        obtain ⟨y, hy, hw⟩ := h3 hb
        have h0 := (List.getElem?_eq_some_iff.1 hy).1
        have e : (texts [x]).1.length = 0 := by simpa using h0
        rw [e] at hy ⊢
        obtain rfl : x = y := by simpa using hy
        exact Or.inr ⟨u, rfl, hW.2 hw⟩) (fun i v hv => by
      obtain rfl : i = 0 := by rcases i with _ | i; rfl; simp at hv
      obtain rfl : u = v := by simpa using hv
      exact ⟨_, rfl, hlt, hc⟩)).mono fun e w' h => say_of (l := [x]) (us := [u]) rfl h
    exact this
  have hcell : (w.alloc (.cells #[u] 20)).cell? ⟨w.heap.size, 0, none⟩ = some u := by rw [cell_of_row _ w.heap.size 0 _ _ _ (heap_alloc_new w _)]; rfl
  have HJ := Lib.hid (HF.out (w.alloc (.cells #[u] 20)) ((Below.refl _ _).alloc (Nat.le_refl _) _) (by simp) hcell)
  have HB := Lib.hid ((Below.refl w.heap.size w).alloc (Nat.le_refl _) (.cells #[u] 20))
  have hshape : u = .nilIface ∨ (∃ b, u = .iface 4 (.bool b)) ∨ (∃ n, u = .iface 3 (.int .i64 n)) ∨ (∃ n, u = .iface 65 (.float .f64 n)) ∨ (∃ s, u = .iface 9 (.string s)) ∨ (∃ b, u = .iface 69 (.map (some b))) := by
    obtain ⟨k, h, t, aL, cL, l, aK, cK, ks, aV, cV, vs⟩ := x
    simp only [V.toJ, V.kind] at hr hk
    split at hr
    · unfold Rep at hr; exact Or.inl hr
    split at hr
    · unfold Rep at hr; exact Or.inr (Or.inl ⟨_, hr⟩)
    split at hr
    · unfold Rep at hr; exact Or.inr (Or.inl ⟨_, hr⟩)
    split at hr
    · split at hr
      · unfold Rep at hr; exact Or.inr (Or.inr (Or.inl ⟨_, hr.1⟩))
      · unfold Rep at hr; exact Or.inr (Or.inr (Or.inr (Or.inl ⟨_, hr⟩)))
    split at hr
    · unfold Rep at hr; exact Or.inr (Or.inr (Or.inr (Or.inr (Or.inl ⟨_, hr.1⟩))))
    try rw [if_neg hk] at hr
    unfold Rep at hr
    obtain ⟨b, m, us, rfl, -⟩ := hr
    exact Or.inr (Or.inr (Or.inr (Or.inr (Or.inr ⟨b, rfl⟩))))
  clear HF hcell hW hr hg hs hk
  rcases hshape with rfl | ⟨b, rfl⟩ | ⟨n, rfl⟩ | ⟨n, rfl⟩ | ⟨s, rfl⟩ | ⟨b, rfl⟩
  all_goals
    go_enter Tryz.func46, Tryz.ntmps46
    go_wp2_with fail
    refine HJ.out.mono ?_
    rintro e w2 ⟨hb2, ⟨ht, rfl⟩ | ⟨ht, p, rfl⟩⟩
    · have HB2 := Lib.hid (HB.out.trans (hb2.mono HB.out.size))
      clear hb2
      go_wp2_with fail
      go_ret
      exact ⟨HB2.out, Or.inl ⟨ht, rfl⟩⟩
    · have HB2 := Lib.hid (HB.out.trans (hb2.mono HB.out.size))
      clear hb2
      go_wp2_with fail
      go_ret
      exact ⟨HB2.out, Or.inr ⟨ht, p, rfl⟩⟩
/-- ZzSh at what a good tree stands for. -/
theorem zzSh_gen (w : World) (S : Nat → Prop) (x : V) (u : Value) (hg : x.Good) (hn : x.list.length ≤ 1000) (hs : x.text.size ≤ 1000000) (hsl : ∀ y ∈ x.list, y.text.size ≤ 1000000) (hr : Rep w S x.toJ u) :
    Calls Tryz.prog 27 #[u] w (SayPost x.elems w) := by
  have hF : Calls Tryz.prog 46 #[u] w (SayPost x.elems w) := by
    by_cases hk : x.kind = 5
    · obtain ⟨k, h, t, aL, cL, l, aK, cK, ks, aV, cV, vs⟩ := x
      simp only [V.kind] at hk
      subst hk
      have hj : (V.mk 5 h t aL cL l aK cK ks aV cV vs).toJ = .list (toJAll l) := by simp [V.toJ]
      rw [hj] at hr
      unfold Rep at hr
      obtain ⟨A, c, us, rfl, h1, h2, h3, h4⟩ := hr
      have hl := h3.length
      rw [← hl]
      have e : (V.mk 5 h t aL cL l aK cK ks aV cV vs).elems = l := by simp [V.elems, V.kind, V.list]
      rw [e]
      unfold V.Good at hg
      have hgl := goodAll_mem hg.2.2.2.2.1
      refine sh_list w S A c l us (by rw [hl, toJAll_length]) hn (fun y hy => ⟨hgl y hy, hsl y hy⟩) (fun i y u hy hu => ?_) (fun i u hu => ?_)
      · refine h3.at_ ?_ hu
        have := toJAll_get l i
        rw [this, hy]; rfl
      · obtain ⟨ad, rfl, _, h5, h6⟩ := h4 (by rintro rfl; simp at hu)
        exact ⟨ad, rfl, h5, h6 i u hu⟩
    · have e : x.elems = [x] := by unfold V.elems; rw [if_neg hk]
      rw [e]
      exact sh_one w S x u hg hs hr hk
  have HF := Lib.hid hF
  clear hF hr hg hn hs hsl
  go_enter Tryz.func27, Tryz.ntmps27
  go_wp2_with fail
  refine HF.out.mono ?_
  rintro e w2 ⟨hb2, ⟨ht, rfl⟩ | ⟨ht, p, rfl⟩⟩
  · go_wp2_with fail
    go_ret
    exact ⟨hb2, Or.inl ⟨ht, rfl⟩⟩
  · go_wp2_with fail
    go_ret
    exact ⟨hb2, Or.inr ⟨ht, p, rfl⟩⟩
end Go.Proofs.YtpigccnlembfdaaGreatDoor
