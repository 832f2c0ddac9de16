/- The walks of impl.result at an error, and of impl.FormatSh at any good tree. Conditions: as each theorem states. -/
import Derived.Test.YtpigccnlembfdaaGreatDoorSay
import Derived.Test.YtpigccnlembfdaaGreatDoorFmt
namespace Go.Proofs.YtpigccnlembfdaaGreatDoor
open Go.RowKit Go.Deep

set_option maxRecDepth 100000 in
set_option maxHeartbeats 1000000 in
theorem result_err (w : World) (p : Addr) :
    Calls Tryz.prog 26 #[.iface 129 (.pointer (some p))] w (Same0 w (.agg #[.int .i64 0, .int .i64 0, .string ⟨#[]⟩, .slice none 0 0, .slice none 0 0, .slice none 0 0, .int .i64 1])) := by
  go_enter Tryz.func26, Tryz.ntmps26
  go_wp2_with fail
  go_returns
  exact ⟨rfl, below1 _ _⟩
/-- What FormatSh leaves. -/
def ShPost (x : V) (w : World) (e : Ending) (w' : World) : Prop := Below w.heap.size w w' ∧
  (((texts x.elems).2 = true ∧ e = .returned (.agg #[.int .i64 4, .int .i64 0, .string (strL (Lib.join (texts x.elems).1 [32])), .slice none 0 0, .slice none 0 0, .slice none 0 0, .int .i64 0]))
  ∨ ((texts x.elems).2 = false ∧ e = .returned (.agg #[.int .i64 0, .int .i64 0, .string ⟨#[]⟩, .slice none 0 0, .slice none 0 0, .slice none 0 0, .int .i64 1])))
set_option maxRecDepth 100000 in
set_option maxHeartbeats 4000000 in
theorem formatSh_gen (x : V) (w : World) (B : Nat) (hB : B ≤ w.heap.size) (hin : x.In w B) (hg : x.Good) (hp : x.parts ≤ 1000) (hs : x.text.size ≤ 1000000) (hsl : ∀ y ∈ x.list, y.text.size ≤ 1000000) :
    Calls Tryz.prog 12 #[x.val] w (ShPost x w) := by
  have hll : x.list.length ≤ 1000 := by
    obtain ⟨k, h, t, aL, cL, l, aK, cK, ks, aV, cV, vs⟩ := x
    have := length_parts l
    have := length_parts vs
    simp only [V.parts] at hp
    simp only [V.list]
    omega
  have hT : ∀ w', Below w.heap.size w w' → Calls Tryz.prog 21 #[x.val] w' (GoPost x.toJ w') := fun w' hb =>
    toGo_any _ x w' B (Nat.le_refl _) (hin.below hb hB) (by have := hb.size; omega) hg (by omega)
  have hfin : ∀ w' u S, Rep w' S x.toJ u → Calls Tryz.prog 27 #[u] w' (SayPost x.elems w') := fun w' u S h => zzSh_gen w' S x u hg hll hs hsl h
  obtain ⟨TS, hTS⟩ : ∃ TS, TS = texts x.elems := ⟨_, rfl⟩
  have HTS := Lib.hid hTS
  have HT := Lib.hid hT
  have HF := Lib.hid hfin
  obtain ⟨Q, hQ⟩ : ∃ Q, Q = ShPost x w := ⟨_, rfl⟩
  rw [← hQ]
  have HQ := Lib.hid hQ
  have HE : Hid (x.elems = x.elems) := Lib.hid rfl
  clear hT hfin hin hg hp hs hsl hll hTS hQ
  obtain ⟨j, hj⟩ : ∃ j, j = x.toJ := ⟨_, rfl⟩
  obtain ⟨el, hel⟩ : ∃ el, el = x.elems := ⟨_, rfl⟩
  rw [← hj] at HT HF
  rw [← hel] at HF HTS
  have HQ2 : Hid (∀ e w', (Below w.heap.size w w' ∧ ((TS.2 = true ∧ e = .returned (.agg #[.int .i64 4, .int .i64 0, .string (strL (Lib.join TS.1 [32])), .slice none 0 0, .slice none 0 0, .slice none 0 0, .int .i64 0])) ∨ (TS.2 = false ∧ e = .returned (.agg #[.int .i64 0, .int .i64 0, .string ⟨#[]⟩, .slice none 0 0, .slice none 0 0, .slice none 0 0, .int .i64 1])))) → Q e w') := Lib.hid fun e w' h => by
    rw [HQ.out]; unfold ShPost; rw [← hel, ← HTS.out]; exact h
  clear hel HQ HE hj
  obtain ⟨k, h, t, aL, cL, l, aK, cK, ks, aV, cV, vs⟩ := x
  rw [V.val_mk] at HT ⊢
  generalize l.length = nl at *
  generalize ks.length = nk at *
  generalize vs.length = nv at *
  have HR := Lib.hid (ResAt.new (w.alloc (.cells #[.int .i64 k, .int .i64 h, .string t, .slice aL nl cL, .slice aK nk cK, .slice aV nv cV] 26)) #[.int .i64 0, .int .i64 0, .string ⟨#[]⟩, .slice none 0 0, .slice none 0 0, .slice none 0 0, .int .i64 0])
  go_enter Tryz.func12, Tryz.ntmps12
  go_wp2_with fail
  refine (HT.out _ (below2 _ _ _)).mono ?_
  rintro e w1 ⟨u, rfl, hb1, hr1⟩
  have hz := HF.out w1 u _ hr1
  have hR1 : ResAt w1 (w.heap.size + 1) #[.int .i64 0, .int .i64 0, .string ⟨#[]⟩, .slice none 0 0, .slice none 0 0, .slice none 0 0, .int .i64 0] := by have := HR.out.below hb1; rw [World.size_alloc] at this; exact this
  have HR1 := Lib.hid hR1
  have HZ := Lib.hid hz
  have HB1 := Lib.hid ((below2 w _ _).trans (hb1.mono (by simp; omega)))
  clear hz hr1 hR1 hb1 HR HT HF
  go_wp2_with fail
  refine HZ.out.mono ?_
  rintro e w2 ⟨hb2, ⟨htx, rfl⟩ | ⟨htx, p, rfl⟩⟩
  · have HR2 := Lib.hid (HR1.out.below hb2)
    have HB2 := Lib.hid (HB1.out.trans (hb2.mono HB1.out.size))
    rw [← HTS.out] at htx ⊢
    have HTX := Lib.hid htx
    obtain ⟨s, hs⟩ : ∃ s, s = strL (Lib.join TS.1 [32]) := ⟨_, rfl⟩
    rw [← hs]
    have HSS := Lib.hid hs
    clear hb2 HR1 HB1 HZ htx hs
    go_wp2_with fail
    refine (result_text _ _).mono ?_
    rintro e w3 ⟨rfl, hb3⟩
    have hR := HR2.out.below hb3
    have r0 := hR.cell 0
    have r1 := hR.cell 1
    have r2 := hR.cell 2
    have r3 := hR.cell 3
    have r4 := hR.cell 4
    have r5 := hR.cell 5
    have r6 := hR.cell 6
    have f0 := hR.frozen 0
    have f1 := hR.frozen 1
    have f2 := hR.frozen 2
    have f3 := hR.frozen 3
    have f4 := hR.frozen 4
    have f5 := hR.frozen 5
    have f6 := hR.frozen 6
    have hlt := hR.lt
    simp at r0 r1 r2 r3 r4 r5 r6
    have HB3 := Lib.hid (HB2.out.trans (hb3.mono HB2.out.size))
    clear hR hb3 HR2 HB2
    go_wp2_with fail
    refine bodyPost_ret (v := .agg #[.int .i64 4, .int .i64 0, .string s, .slice none 0 0, .slice none 0 0, .slice none 0 0, .int .i64 0]) (by simp [results, Tryz.results12, go_sem, r0, r1, r2, r3, r4, r5, r6]) rfl (HQ2.out _ _ ⟨?_, Or.inl ⟨HTX.out, by rw [HSS.out]⟩⟩)
    exact ((((((HB3.out.setCell (by simp) _).setCell (by simp) _).setCell (by simp) _).setCell (by simp) _).setCell (by simp) _).setCell (by simp) _).setCell (by simp) _
  · have HR2 := Lib.hid (HR1.out.below hb2)
    have HB2 := Lib.hid (HB1.out.trans (hb2.mono HB1.out.size))
    rw [← HTS.out] at htx
    have HTX := Lib.hid htx
    clear hb2 HR1 HB1 HZ htx
    go_wp2_with fail
    refine (result_err _ _).mono ?_
    rintro e w3 ⟨rfl, hb3⟩
    have hR := HR2.out.below hb3
    have r0 := hR.cell 0
    have r1 := hR.cell 1
    have r2 := hR.cell 2
    have r3 := hR.cell 3
    have r4 := hR.cell 4
    have r5 := hR.cell 5
    have r6 := hR.cell 6
    have f0 := hR.frozen 0
    have f1 := hR.frozen 1
    have f2 := hR.frozen 2
    have f3 := hR.frozen 3
    have f4 := hR.frozen 4
    have f5 := hR.frozen 5
    have f6 := hR.frozen 6
    have hlt := hR.lt
    simp at r0 r1 r2 r3 r4 r5 r6
    have HB3 := Lib.hid (HB2.out.trans (hb3.mono HB2.out.size))
    clear hR hb3 HR2 HB2
    go_wp2_with fail
    refine bodyPost_ret (v := .agg #[.int .i64 0, .int .i64 0, .string ⟨#[]⟩, .slice none 0 0, .slice none 0 0, .slice none 0 0, .int .i64 1]) (by simp [results, Tryz.results12, go_sem, r0, r1, r2, r3, r4, r5, r6]) rfl (HQ2.out _ _ ⟨?_, Or.inr ⟨HTX.out, rfl⟩⟩)
    exact ((((((HB3.out.setCell (by simp) _).setCell (by simp) _).setCell (by simp) _).setCell (by simp) _).setCell (by simp) _).setCell (by simp) _).setCell (by simp) _
end Go.Proofs.YtpigccnlembfdaaGreatDoor
