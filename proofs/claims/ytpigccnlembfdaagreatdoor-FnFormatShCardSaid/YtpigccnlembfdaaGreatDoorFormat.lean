/- The walks of spec.Format at @sh, of spec.Same at a text. Conditions: as each theorem states. -/
import Derived.Test.YtpigccnlembfdaaGreatDoorCtl
import Derived.Test.YtpigccnlembfdaaGreatDoorNul
namespace Go.Proofs.YtpigccnlembfdaaGreatDoor
open Go.RowKit Go.Deep

/-- A tree that @sh may be asked about. -/
structure ShIn (x : V) (w : World) (B : Nat) : Prop where
  inn : x.In w B
  good : x.Good
  parts : x.parts ≤ 1000
  text : x.text.size ≤ 1000000
  texts : ∀ y ∈ x.list, y.text.size ≤ 1000000
theorem ShIn.below {x : V} {w w' : World} {B : Nat} (h : ShIn x w B) (hb : Below w.heap.size w w') (hB : B ≤ w.heap.size) : ShIn x w' B := ⟨h.inn.below hb hB, h.good, h.parts, h.text, h.texts⟩
theorem ShIn.len {x : V} {w : World} {B : Nat} (h : ShIn x w B) : x.list.length ≤ 1000 := by
  obtain ⟨k, hh, t, aL, cL, l, aK, cK, ks, aV, cV, vs⟩ := x
  have h1 := length_parts l
  have h2 := partsAll_nn vs
  have h3 := h.parts
  simp only [V.parts] at h3
  simp only [V.list]
  omega
theorem elems_mem {x y : V} (h : y ∈ x.elems) : y = x ∨ y ∈ x.list := by
  unfold V.elems at h
  split at h
  · exact Or.inr h
  · exact Or.inl (List.mem_singleton.1 h)
theorem good_list {x y : V} (hg : x.Good) (h : y ∈ x.list) : y.Good := by
  obtain ⟨k, hh, t, aL, cL, l, aK, cK, ks, aV, cV, vs⟩ := x
  unfold V.Good at hg
  exact goodAll_mem hg.2.2.2.2.1 y h
theorem shell_in (w : World) (x : V) (B : Nat) (hB : B ≤ w.heap.size) (h : ShIn x w B) (hn : NoNul x.text ∧ ∀ y ∈ x.list, NoNul y.text) : Calls Tryz.prog 39 #[x.val] w (ShellPost x.elems w) := by
  refine shell_any w x B hB h.inn (fun y hy => ?_) (fun y hy => ?_) (fun y hy => ?_) ?_
  · rcases elems_mem hy with rfl | hy
    · exact h.good
    · exact good_list h.good hy
  · rcases elems_mem hy with rfl | hy
    · exact h.text
    · exact h.texts y hy
  · rcases elems_mem hy with rfl | hy
    · exact hn.1
    · exact hn.2 y hy
  · unfold V.elems
    split
    · exact h.len
    · simp
set_option maxRecDepth 100000 in
set_option maxHeartbeats 4000000 in
theorem format_any (w : World) (x : V) (B : Nat) (hB : B ≤ w.heap.size) (h : ShIn x w B) : Calls Tryz.prog 23 #[.string ⟨#[115, 104]⟩, x.val] w (ShellPost x.elems w) := by
  obtain ⟨Q, hQ⟩ : ∃ Q, Q = ShellPost x.elems w := ⟨_, rfl⟩
  rw [← hQ]
  have HQ : Hid (∀ e w', Below w.heap.size w w' → (((texts x.elems).2 = true ∧ e = .returned (.tuple #[.string (strL (Lib.join (texts x.elems).1 [32])), .int .i64 0])) ∨ ((texts x.elems).2 = false ∧ e = .returned (.tuple #[.string ⟨#[]⟩, .int .i64 1])) ∨ ∃ s : ByteArray, e = .returned (.tuple #[.string s, .int .i64 2])) → Q e w') := Lib.hid fun e w' h1 h2 => by rw [hQ]; exact ⟨h1, h2⟩
  clear hQ
  have HN := Lib.hid (fun w' (hb : Below w.heap.size w w') => nulV_any w' x B (by have := hb.size; omega) (h.inn.below hb hB) h.text h.texts h.len)
  have HS := Lib.hid (fun w' (hb : Below w.heap.size w w') (hn : NoNul x.text ∧ ∀ y ∈ x.list, NoNul y.text) => shell_in w' x B (by have := hb.size; omega) (h.below hb hB) hn)
  obtain ⟨TS, hTS⟩ : ∃ TS, TS = texts x.elems := ⟨_, rfl⟩
  have HTS := Lib.hid hTS
  clear h hTS
  obtain ⟨k, hh, t, aL, cL, l, aK, cK, ks, aV, cV, vs⟩ := x
  rw [V.val_mk] at HN HS ⊢
  obtain ⟨a, ha⟩ : ∃ a, a = Value.slice aL l.length cL := ⟨_, rfl⟩
  obtain ⟨b, hb⟩ : ∃ b, b = Value.slice aK ks.length cK := ⟨_, rfl⟩
  obtain ⟨c, hc⟩ : ∃ c, c = Value.slice aV vs.length cV := ⟨_, rfl⟩
  rw [← ha, ← hb, ← hc] at HN HS ⊢
  have HB := Lib.hid (below1 w (.cells #[.int .i64 k, .int .i64 hh, .string t, a, b, c] 26))
  have hbx := box_six w k hh t a b c
  have HBX := Lib.hid hbx
  clear ha hb hc hbx
  go_enter Tryz.func23, Tryz.ntmps23
  go_wp2_with fail
  refine (HN.out _ HB.out).mono ?_
  rintro e w2 ⟨bb, rfl, hb2, hnn⟩
  have hx : ∀ i, w2.cell? ⟨w.heap.size, i, none⟩ = (#[.int .i64 k, .int .i64 hh, .string t, a, b, c] : Array Value)[i]? := fun i => (hb2.cell (p := ⟨w.heap.size, i, none⟩) (by simp)).trans (HBX.out i)
  have hxl : w.heap.size < w2.heap.size := by have := hb2.size; simp at this; omega
  have HB2 := Lib.hid (HB.out.trans (hb2.mono (by simp)))
  have HNN := Lib.hid hnn
  have x0 := hx 0
  have x1 := hx 1
  have x2 := hx 2
  have x3 := hx 3
  have x4 := hx 4
  have x5 := hx 5
  simp only [List.getElem?_toArray, List.getElem?_cons_zero, List.getElem?_cons_succ] at x0 x1 x2 x3 x4 x5
  clear hb2 hnn hx
  cases bb with
  | true =>
    go_wp2_with fail
    exact HQ.out _ _ HB2.out (Or.inr (Or.inr ⟨_, rfl⟩))
  | false =>
    have HSH := Lib.hid (HS.out w2 HB2.out (HNN.out rfl))
    go_wp2_with fail
    refine HSH.out.mono ?_
    rintro e w3 ⟨hb3, h3⟩
    have HB3 := Lib.hid (HB2.out.trans (hb3.mono HB2.out.size))
    clear hb3
    rcases h3 with ⟨h3, rfl⟩ | ⟨h3, rfl⟩ | ⟨s, rfl⟩
    · rw [← HTS.out] at h3 ⊢
      have HT3 := Lib.hid h3
      obtain ⟨T, hT⟩ : ∃ T, T = strL (Lib.join TS.1 [32]) := ⟨_, rfl⟩
      rw [← hT]
      have HTT := Lib.hid hT
      clear h3 hT
      go_wp2_with fail
      refine HQ.out _ _ HB3.out (Or.inl ⟨by rw [← HTS.out]; exact HT3.out, ?_⟩)
      rw [← HTS.out, ← HTT.out]; rfl
    · have HT3 := Lib.hid h3
      clear h3
      go_wp2_with fail
      exact HQ.out _ _ HB3.out (Or.inr (Or.inl ⟨HT3.out, rfl⟩))
    · go_wp2_with fail
      exact HQ.out _ _ HB3.out (Or.inr (Or.inr ⟨s, rfl⟩))
theorem texts_sameT (w : World) (t : ByteArray) : Calls Tryz.prog 73 #[.string t, .string t] w (fun e w' => e = .returned (.int .i64 0) ∧ w' = w) := by
  have e := bl_irrefl t.toList
  go_enter Tryz.func73, Tryz.ntmps73
  go_wp2_with fail
  go_ret
  exact ⟨rfl, rfl⟩
set_option maxRecDepth 100000 in
set_option maxHeartbeats 2000000 in
theorem cmp_text (w : World) (t : ByteArray) : Calls Tryz.prog 56 #[.agg #[.int .i64 4, .int .i64 0, .string t, .slice none 0 0, .slice none 0 0, .slice none 0 0], .agg #[.int .i64 4, .int .i64 0, .string t, .slice none 0 0, .slice none 0 0, .slice none 0 0]] w (Same0 w (.int .i64 0)) := by
  have HB := Lib.hid (below2 w (.cells #[.int .i64 4, .int .i64 0, .string t, .slice none 0 0, .slice none 0 0, .slice none 0 0] 26) (.cells #[.int .i64 4, .int .i64 0, .string t, .slice none 0 0, .slice none 0 0, .slice none 0 0] 26))
  go_enter Tryz.func56, Tryz.ntmps56
  go_wp2_with fail
  refine (texts_sameT _ t).mono ?_
  rintro e w2 ⟨rfl, rfl⟩
  go_wp2_with fail
  go_ret
  exact ⟨rfl, HB.out⟩
set_option maxRecDepth 100000 in
theorem same_text (w : World) (t : ByteArray) : Calls Tryz.prog 44 #[.agg #[.int .i64 4, .int .i64 0, .string t, .slice none 0 0, .slice none 0 0, .slice none 0 0], .agg #[.int .i64 4, .int .i64 0, .string t, .slice none 0 0, .slice none 0 0, .slice none 0 0]] w (Same0 w (.bool true)) := by
  have HB := Lib.hid (below2 w (.cells #[.int .i64 4, .int .i64 0, .string t, .slice none 0 0, .slice none 0 0, .slice none 0 0] 26) (.cells #[.int .i64 4, .int .i64 0, .string t, .slice none 0 0, .slice none 0 0, .slice none 0 0] 26))
  go_enter Tryz.func44, Tryz.ntmps44
  go_wp2_with fail
  refine (cmp_text _ t).mono ?_
  rintro e w2 ⟨rfl, hb2⟩
  have HB2 := Lib.hid (HB.out.trans (hb2.mono HB.out.size))
  clear hb2
  go_wp2_with fail
  go_ret
  exact ⟨rfl, HB2.out⟩
end Go.Proofs.YtpigccnlembfdaaGreatDoor
