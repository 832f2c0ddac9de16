/- The walks of spec.JSON at a leaf that is no text, of spec.String and spec.bare. Conditions: as each theorem states. -/
import Derived.Test.YtpigccnlembfdaaGreatDoorChange
namespace Go.Proofs.YtpigccnlembfdaaGreatDoor
open Go.RowKit Go.Deep

/-- What bare says of a leaf. -/
def V.bareT : V → List UInt8
  | .mk k h t _ _ _ _ _ _ _ _ _ => if k = 0 then [] else if k = 1 then [102, 97, 108, 115, 101] else if k = 2 then [116, 114, 117, 101] else if k = 3 then figs h else t.data.toList
/-- What JSON, String leave at a leaf: the text, or that nothing is said of this number. -/
def TextPost (l : List UInt8) (w : World) (e : Ending) (w' : World) : Prop := Below w.heap.size w w' ∧ (e = .returned (.tuple #[.string (strL l), .int .i64 0]) ∨ ∃ s : ByteArray, s.size ≤ 100 ∧ e = .returned (.tuple #[.string s, .int .i64 2]))
/-- What bare leaves. -/
def BarePost (x : V) (w : World) (e : Ending) (w' : World) : Prop := Below w.heap.size w w' ∧
  ((5 ≤ x.kind ∧ e = .returned (.tuple #[.string ⟨#[]⟩, .int .i64 1])) ∨ (x.kind ≤ 4 ∧ e = .returned (.tuple #[.string (strL x.bareT), .int .i64 0])) ∨ ∃ s : ByteArray, s.size ≤ 100 ∧ e = .returned (.tuple #[.string s, .int .i64 2]))
theorem strL_back (t : ByteArray) : strL t.data.toList = t := by
  apply ByteArray.ext
  simp [strL]
/-- The box's cells. -/
theorem box_six (w : World) (k h : Int) (t : ByteArray) (a b c : Value) : ∀ i, (w.alloc (.cells #[.int .i64 k, .int .i64 h, .string t, a, b, c] 26)).cell? ⟨w.heap.size, i, none⟩ = (#[.int .i64 k, .int .i64 h, .string t, a, b, c] : Array Value)[i]? := fun i => cell_of_row _ w.heap.size i _ _ _ (heap_alloc_new w _)
set_option maxRecDepth 100000 in
set_option maxHeartbeats 2000000 in
theorem json_leaf (w : World) (k h : Int) (t : ByteArray) (a b c : Value) (hk : k = 1 ∨ k = 2 ∨ k = 3) (h0 : -18014398509481984 ≤ h) (h1 : h ≤ 18014398509481984) :
    Calls Tryz.prog 8 #[.agg #[.int .i64 k, .int .i64 h, .string t, a, b, c]] w
      (TextPost (if k = 1 then [102, 97, 108, 115, 101] else if k = 2 then [116, 114, 117, 101] else figs h) w) := by
  have HF := Lib.hid (fun w' => figures_any w' h h0 h1)
  have HB := Lib.hid (below1 w (.cells #[.int .i64 k, .int .i64 h, .string t, a, b, c] 26))
  rcases hk with rfl | rfl | rfl
  · go_enter Tryz.func8, Tryz.ntmps8
    go_wp2_with fail
    go_ret2
    exact ⟨HB.out, Or.inl rfl⟩
  · go_enter Tryz.func8, Tryz.ntmps8
    go_wp2_with fail
    go_ret2
    exact ⟨HB.out, Or.inl rfl⟩
  · go_enter Tryz.func8, Tryz.ntmps8
    go_wp2_with fail
    refine (HF.out _).mono ?_
    rintro e w2 ⟨hb2, rfl | ⟨s, hs, rfl⟩⟩
    · have HB2 := Lib.hid (HB.out.trans (hb2.mono HB.out.size))
      clear hb2
      go_wp2_with fail
      go_ret2
      exact ⟨HB2.out, Or.inl rfl⟩
    · have HB2 := Lib.hid (HB.out.trans (hb2.mono HB.out.size))
      clear hb2
      go_wp2_with fail
      go_ret2
      exact ⟨HB2.out, Or.inr ⟨s, hs, rfl⟩⟩
set_option maxRecDepth 100000 in
set_option maxHeartbeats 2000000 in
theorem string_leaf (w : World) (k h : Int) (t : ByteArray) (a b c : Value) (hk : k = 1 ∨ k = 2 ∨ k = 3 ∨ k = 4) (h0 : -18014398509481984 ≤ h) (h1 : h ≤ 18014398509481984) :
    Calls Tryz.prog 37 #[.agg #[.int .i64 k, .int .i64 h, .string t, a, b, c]] w
      (TextPost (if k = 1 then [102, 97, 108, 115, 101] else if k = 2 then [116, 114, 117, 101] else if k = 3 then figs h else t.data.toList) w) := by
  have HB := Lib.hid (below1 w (.cells #[.int .i64 k, .int .i64 h, .string t, a, b, c] 26))
  by_cases h4 : k = 4
  · subst h4
    have e4 : (if (4 : Int) = 1 then ([102, 97, 108, 115, 101] : List UInt8) else if (4 : Int) = 2 then [116, 114, 117, 101] else if (4 : Int) = 3 then figs h else t.data.toList) = t.data.toList := by simp
    rw [e4]
    clear e4
    go_enter Tryz.func37, Tryz.ntmps37
    go_wp2_with fail
    go_ret2
    refine ⟨HB.out, Or.inl ?_⟩
    rw [strL_back]; rfl
  · have hk3 : k = 1 ∨ k = 2 ∨ k = 3 := by omega
    have HJ := Lib.hid (fun w' => json_leaf w' k h t a b c hk3 h0 h1)
    have hk4 : (k == 4) = false := by rw [beq_eq_false_iff_ne]; exact h4
    have e : (if k = 1 then [102, 97, 108, 115, 101] else if k = 2 then [116, 114, 117, 101] else if k = 3 then figs h else t.data.toList) = (if k = 1 then ([102, 97, 108, 115, 101] : List UInt8) else if k = 2 then [116, 114, 117, 101] else figs h) := by
      rcases hk3 with rfl | rfl | rfl <;> simp
    rw [e]
    obtain ⟨T, hT⟩ : ∃ T, T = (if k = 1 then ([102, 97, 108, 115, 101] : List UInt8) else if k = 2 then [116, 114, 117, 101] else figs h) := ⟨_, rfl⟩
    rw [← hT] at HJ ⊢
    clear hT e hk hk3 h4
    go_enter Tryz.func37, Tryz.ntmps37
    go_wp2_with fail
    refine (HJ.out _).mono ?_
    rintro e w2 ⟨hb2, rfl | ⟨s, hs, rfl⟩⟩
    · have HB2 := Lib.hid (HB.out.trans (hb2.mono HB.out.size))
      clear hb2
      go_wp2_with fail
      go_ret2
      exact ⟨HB2.out, Or.inl rfl⟩
    · have HB2 := Lib.hid (HB.out.trans (hb2.mono HB.out.size))
      clear hb2
      go_wp2_with fail
      go_ret2
      exact ⟨HB2.out, Or.inr ⟨s, hs, rfl⟩⟩
set_option maxRecDepth 100000 in
set_option maxHeartbeats 2000000 in
theorem bare_any (w : World) (x : V) (hg : x.Good) : Calls Tryz.prog 52 #[x.val] w (BarePost x w) := by
  obtain ⟨k, h, t, aL, cL, l, aK, cK, ks, aV, cV, vs⟩ := x
  unfold V.Good at hg
  obtain ⟨hc1, ⟨q1, q2, -⟩, -⟩ := hg
  have hk0 := hc1.1
  have hk6 := hc1.2.1
  rw [V.val_mk]
  obtain ⟨a, ha⟩ : ∃ a, a = Value.slice aL l.length cL := ⟨_, rfl⟩
  obtain ⟨b, hb⟩ : ∃ b, b = Value.slice aK ks.length cK := ⟨_, rfl⟩
  obtain ⟨c, hc⟩ : ∃ c, c = Value.slice aV vs.length cV := ⟨_, rfl⟩
  rw [← ha, ← hb, ← hc]
  obtain ⟨Q, hQ⟩ : ∃ Q, Q = BarePost (.mk k h t aL cL l aK cK ks aV cV vs) w := ⟨_, rfl⟩
  rw [← hQ]
  have HB := Lib.hid (below1 w (.cells #[.int .i64 k, .int .i64 h, .string t, a, b, c] 26))
  have HQ := Lib.hid hQ
  clear hc1 ha hb hc hQ
  have hks : k = 0 ∨ (k = 1 ∨ k = 2 ∨ k = 3 ∨ k = 4) ∨ k = 5 ∨ k = 6 := by omega
  rcases hks with rfl | hks | rfl | rfl
  · go_enter Tryz.func52, Tryz.ntmps52
    go_wp2_with fail
    rw [HQ.out]
    exact ⟨HB.out, Or.inr (Or.inl ⟨by simp [V.kind], rfl⟩)⟩
  · have HS := Lib.hid (fun w' => string_leaf w' k h t a b c hks q1 q2)
    have e : (if k = 1 then ([102, 97, 108, 115, 101] : List UInt8) else if k = 2 then [116, 114, 117, 101] else if k = 3 then figs h else t.data.toList) = (V.mk k h t aL cL l aK cK ks aV cV vs).bareT := by
      have hk0' : ¬ k = 0 := by omega
      simp only [V.bareT, hk0', if_false]
    rw [e] at HS
    have hk5 : (k == 5) = false := by rw [beq_eq_false_iff_ne]; omega
    have hk6' : (k == 6) = false := by rw [beq_eq_false_iff_ne]; omega
    have hk00 : (k == 0) = false := by rw [beq_eq_false_iff_ne]; omega
    have HKS := Lib.hid hks
    clear hks e
    go_enter Tryz.func52, Tryz.ntmps52
    go_wp2_with fail
    refine (HS.out _).mono ?_
    rintro e w2 ⟨hb2, rfl | ⟨s, hs, rfl⟩⟩
    · have HB2 := Lib.hid (HB.out.trans (hb2.mono HB.out.size))
      clear hb2
      go_wp2_with fail
      rw [HQ.out]
      exact ⟨HB2.out, Or.inr (Or.inl ⟨by have := HKS.out; simp [V.kind]; omega, rfl⟩)⟩
    · have HB2 := Lib.hid (HB.out.trans (hb2.mono HB.out.size))
      clear hb2
      go_wp2_with fail
      rw [HQ.out]
      exact ⟨HB2.out, Or.inr (Or.inr ⟨s, hs, rfl⟩)⟩
  · go_enter Tryz.func52, Tryz.ntmps52
    go_wp2_with fail
    rw [HQ.out]
    exact ⟨HB.out, Or.inl ⟨by simp [V.kind], rfl⟩⟩
  · go_enter Tryz.func52, Tryz.ntmps52
    go_wp2_with fail
    rw [HQ.out]
    exact ⟨HB.out, Or.inl ⟨by simp [V.kind], rfl⟩⟩
end Go.Proofs.YtpigccnlembfdaaGreatDoor
