/- The walks of impl.FormatSh at a list of strings, and of laws.text at a text. Conditions: as each theorem states. -/
import Derived.Test.YtpigccnlembfdaaGreatDoorQuote
import Derived.Test.YtpigccnlembfdaaGreatDoorGo
import Derived.Laws.ResultCell
import Derived.WalkSmall
namespace Go.Proofs.YtpigccnlembfdaaGreatDoor
open Go.RowKit

def Same0 (w : World) (v : Value) (e : Ending) (w' : World) : Prop := e = .returned v ∧ Below w.heap.size w w'
theorem below2 (w : World) (o1 o2 : Obj) : Below w.heap.size w ((w.alloc o1).alloc o2) := ((Below.refl _ _).alloc (Nat.le_refl _) _).alloc (by simp) _
theorem below1 (w : World) (o1 : Obj) : Below w.heap.size w (w.alloc o1) := (Below.refl _ _).alloc (Nat.le_refl _) _

/-- What a list of strings is after @sh. -/
def shText (ss : List ByteArray) : ByteArray := ⟨(Lib.join (ss.map fun s => shq s.data.toList) [32]).toArray⟩

theorem funcToSh_any (w : World) (ad : Addr) (c : Nat) (ss : List ByteArray) (hn : ss.length ≤ 1000) (hc : ss.length ≤ c) (hsz : ∀ s ∈ ss, s.size ≤ 1000000) (had : ad.block < w.heap.size)
    (hcells : ∀ (i : Nat) (s : ByteArray), ss[i]? = some s → w.cell? (ad.add i) = some (.iface 9 (.string s))) :
    Calls Tryz.prog 46 #[.iface 66 (.slice (some ad) ss.length c)] w (Same0 w (.iface 9 (.string (shText ss)))) := by
  have HF := Lib.hid (formatJoin_any w ad c ss hn hc hsz had hcells)
  clear hcells hsz hn hc
  generalize ss.length = n at *
  go_enter Tryz.func46, Tryz.ntmps46
  go_wp2_with (go_at_call 60; refine HF.out.mono ?_; rintro e w2 ⟨rfl, hb2⟩)
  go_ret
  exact ⟨rfl, hb2⟩

theorem zzSh_any (w : World) (ad : Addr) (c : Nat) (ss : List ByteArray) (hn : ss.length ≤ 1000) (hc : ss.length ≤ c) (hsz : ∀ s ∈ ss, s.size ≤ 1000000) (had : ad.block < w.heap.size)
    (hcells : ∀ (i : Nat) (s : ByteArray), ss[i]? = some s → w.cell? (ad.add i) = some (.iface 9 (.string s))) :
    Calls Tryz.prog 27 #[.iface 66 (.slice (some ad) ss.length c)] w (Same0 w (.iface 9 (.string (shText ss)))) := by
  have HF := Lib.hid (funcToSh_any w ad c ss hn hc hsz had hcells)
  clear hcells hsz hn hc
  generalize ss.length = n at *
  go_enter Tryz.func27, Tryz.ntmps27
  go_wp2_with (go_at_call 46; refine HF.out.mono ?_; rintro e w2 ⟨rfl, hb2⟩)
  go_ret
  exact ⟨rfl, hb2⟩

set_option maxRecDepth 100000 in
set_option maxHeartbeats 1000000 in
theorem fromGo_text (w : World) (s : ByteArray) : Calls Tryz.prog 45 #[.iface 9 (.string s)] w (Same0 w (.tuple #[.agg #[.int .i64 4, .int .i64 0, .string s, .slice none 0 0, .slice none 0 0, .slice none 0 0], .bool true])) := by
  go_enter Tryz.func45, Tryz.ntmps45
  go_wp2_with fail
  exact bodyPost_ret (v := .tuple #[.agg #[.int .i64 4, .int .i64 0, .string s, .slice none 0 0, .slice none 0 0, .slice none 0 0], .bool true]) (by simp [results, Tryz.results45, go_sem]) rfl ⟨rfl, below1 _ _⟩

/-- The result variable of a door: seven cells. -/
def ResAt (w : World) (g : Nat) (cs : Array Value) : Prop := w.heap[g]? = some (.cells cs 36 (0, 0))
theorem ResAt.new (w : World) (cs : Array Value) : ResAt (w.alloc (.cells cs 36)) w.heap.size cs := heap_alloc_new w _
theorem ResAt.below {w w1 : World} {g : Nat} {cs : Array Value} (h : ResAt w g cs) (hb : Below w.heap.size w w1) : ResAt w1 g cs := (hb.block g (Array.getElem?_eq_some_iff.1 h).1).trans h
theorem ResAt.lt {w : World} {g : Nat} {cs : Array Value} (h : ResAt w g cs) : g < w.heap.size := (Array.getElem?_eq_some_iff.1 h).1
theorem ResAt.cell {w : World} {g : Nat} {cs : Array Value} (h : ResAt w g cs) (i : Nat) : w.cell? ⟨g, i, none⟩ = cs[i]? := cell_of_row w g i _ _ _ h
theorem ResAt.frozen {w : World} {g : Nat} {cs : Array Value} (h : ResAt w g cs) (i : Nat) : w.frozen? ⟨g, i, none⟩ = false := by
  unfold ResAt at h; simp [World.frozen?, h]

set_option maxRecDepth 100000 in
set_option maxHeartbeats 1000000 in
theorem result_text (w : World) (s : ByteArray) :
    Calls Tryz.prog 26 #[.iface 9 (.string s)] w (Same0 w (.agg #[.int .i64 4, .int .i64 0, .string s, .slice none 0 0, .slice none 0 0, .slice none 0 0, .int .i64 0])) := by
  have HF := Lib.hid (fromGo_text (w.alloc (.cells #[.int .i64 0, .int .i64 0, .string ⟨#[]⟩, .slice none 0 0, .slice none 0 0, .slice none 0 0, .int .i64 0] 36)) s)
  have HR := Lib.hid (ResAt.new w #[.int .i64 0, .int .i64 0, .string ⟨#[]⟩, .slice none 0 0, .slice none 0 0, .slice none 0 0, .int .i64 0])
  go_enter Tryz.func26, Tryz.ntmps26
  go_wp2_with (go_at_call 45; refine HF.out.mono ?_; rintro e w1 ⟨rfl, hb1⟩; have hR := HR.out.below hb1; have r0 := hR.cell 0; have r1 := hR.cell 1; have r2 := hR.cell 2; have r3 := hR.cell 3; have r4 := hR.cell 4; have r5 := hR.cell 5; have r6 := hR.cell 6; have f0 := hR.frozen 0; have f1 := hR.frozen 1; have f2 := hR.frozen 2; have f3 := hR.frozen 3; have f4 := hR.frozen 4; have f5 := hR.frozen 5; have f6 := hR.frozen 6; have hlt := hR.lt; simp at r0 r1 r2 r3 r4 r5 r6; clear hR)
  have hbB : Below w.heap.size w w1 := (below1 w _).trans (hb1.mono (by simp))
  refine bodyPost_ret (v := .agg #[.int .i64 4, .int .i64 0, .string s, .slice none 0 0, .slice none 0 0, .slice none 0 0, .int .i64 0]) (by simp [results, Tryz.results26, go_sem, r0, r1, r2, r3, r4, r5, r6, hlt]) rfl ⟨rfl, ?_⟩
  exact (((((((hbB.setCell (by simp) _).setCell (by simp) _).setCell (by simp) _).setCell (by simp) _).setCell (by simp) _).setCell (by simp) _).setCell (by simp) _).alloc (by simpa using Nat.le_of_lt hlt) _

/-- A string as a tree. -/
def strV (s : ByteArray) : V := .mk 4 0 s none 0 [] none 0 [] none 0 []

set_option maxRecDepth 100000 in
set_option maxHeartbeats 2000000 in
theorem formatSh_any (ss : List ByteArray) (A : Option Addr) (c : Nat) (w : World) (B : Nat) (hB : B ≤ w.heap.size) (hn : ss.length ≤ 1000) (hne : ss ≠ []) (hsz : ∀ s ∈ ss, s.size ≤ 1000000)
    (hin : (V.mk 5 0 ⟨#[]⟩ A c (ss.map strV) none 0 [] none 0 []).In w B) (hg : (V.mk 5 0 ⟨#[]⟩ A c (ss.map strV) none 0 [] none 0 []).Good) :
    Calls Tryz.prog 12 #[.agg #[.int .i64 5, .int .i64 0, .string ⟨#[]⟩, .slice A ss.length c, .slice none 0 0, .slice none 0 0]] w
      (Same0 w (.agg #[.int .i64 4, .int .i64 0, .string (shText ss), .slice none 0 0, .slice none 0 0, .slice none 0 0, .int .i64 0])) := by
  have hparts : ∀ l : List ByteArray, partsAll (l.map strV) = l.length := fun l => by
    induction l with
    | nil => simp [partsAll]
    | cons s r ih => simp only [List.map_cons, partsAll, ih, List.length_cons, strV, V.parts]; omega
  have hjs : ∀ l : List ByteArray, toJAll (l.map strV) = l.map J.str := fun l => by
    induction l with
    | nil => simp [toJAll]
    | cons s r ih => simp only [List.map_cons, toJAll, ih]; simp [strV, V.toJ]
  have hp : (V.mk 5 0 ⟨#[]⟩ A c (ss.map strV) none 0 [] none 0 []).parts ≤ 1000000 := by
    simp only [V.parts, partsAll, hparts]; omega
  have hj : (V.mk 5 0 ⟨#[]⟩ A c (ss.map strV) none 0 [] none 0 []).toJ = .list (ss.map J.str) := by simp [V.toJ, hjs]
  have hT : ∀ w', Below w.heap.size w w' → Calls Tryz.prog 21 #[(V.mk 5 0 ⟨#[]⟩ A c (ss.map strV) none 0 [] none 0 []).val] w' (GoPost (.list (ss.map J.str)) w') := fun w' hb => by
    have := toGo_any _ (V.mk 5 0 ⟨#[]⟩ A c (ss.map strV) none 0 [] none 0 []) w' B (Nat.le_refl _) (hin.below hb hB) (by have := hb.size; omega) hg hp
    rw [hj] at this; exact this
  rw [V.val_mk, List.length_map] at hT
  have hfin : ∀ w' x S, Rep w' S (.list (ss.map J.str)) x → ∃ ad c', x = .iface 66 (.slice (some ad) ss.length c') ∧ Calls Tryz.prog 27 #[x] w' (Same0 w' (.iface 9 (.string (shText ss)))) := fun w' x S h => by
    unfold Rep at h
    obtain ⟨A', c', us, rfl, h1, h2, h3, h4⟩ := h
    have hl := h3.length
    obtain ⟨ad, rfl, _, hlt, hc⟩ := h4 (by rintro rfl; exact hne (List.length_eq_zero_iff.1 (by simpa using hl.symm)))
    rw [List.length_map] at h1 ⊢
    refine ⟨ad, c', rfl, zzSh_any w' ad c' ss hn h1 hsz hlt fun i s hs => ?_⟩
    obtain ⟨u, hu⟩ : ∃ u, us[i]? = some u := ⟨_, List.getElem?_eq_getElem (by rw [hl, List.length_map]; exact (List.getElem?_eq_some_iff.1 hs).1)⟩
    have hr := h3.at_ (i := i) (j := .str s) (by rw [List.getElem?_map, hs]; rfl) hu
    unfold Rep at hr
    rw [hc i u hu, hr.1]
  have HT := Lib.hid hT
  have HF := Lib.hid hfin
  clear hT hfin hin hg hp hj hparts hjs hsz hne hn
  generalize ss.length = n at *
  simp only [List.length_nil] at HT
  have HR := Lib.hid (ResAt.new (w.alloc (.cells #[.int .i64 5, .int .i64 0, .string ⟨#[]⟩, .slice A n c, .slice none 0 0, .slice none 0 0] 26)) #[.int .i64 0, .int .i64 0, .string ⟨#[]⟩, .slice none 0 0, .slice none 0 0, .slice none 0 0, .int .i64 0])
  go_enter Tryz.func12, Tryz.ntmps12
  go_wp2_with fail
  refine (HT.out _ (below2 _ _ _)).mono ?_
  rintro e w1 ⟨x, rfl, hb1, hr1⟩
  obtain ⟨ad, c', rfl, hz⟩ := HF.out w1 x _ hr1
  have hR1 : ResAt w1 (w.heap.size + 1) #[.int .i64 0, .int .i64 0, .string ⟨#[]⟩, .slice none 0 0, .slice none 0 0, .slice none 0 0, .int .i64 0] := by have := HR.out.below hb1; rw [World.size_alloc] at this; exact this
  have HR1 := Lib.hid hR1
  have HZ := Lib.hid hz
  have HB1 := Lib.hid ((below2 w _ _).trans (hb1.mono (by simp; omega)))
  clear hz hr1 hR1 hb1 HR HT HF
  go_wp2_with fail
  refine HZ.out.mono ?_
  rintro e w2 ⟨rfl, hb2⟩
  have HR2 := Lib.hid (HR1.out.below hb2)
  have HB2 := Lib.hid (HB1.out.trans (hb2.mono HB1.out.size))
  clear hb2 HR1 HB1 HZ
  go_wp2_with fail
  refine (result_text _ _).mono ?_
  rintro e w3 ⟨rfl, hb3⟩
  have hR := HR2.out.below hb3
  have r0 := hR.cell 0
  have r1 := hR.cell 1
  have r2 := hR.cell 2
  have r3 := hR.cell 3
  have r4 := hR.cell 4
  have r5 := hR.cell 5
  have r6 := hR.cell 6
  have f0 := hR.frozen 0
  have f1 := hR.frozen 1
  have f2 := hR.frozen 2
  have f3 := hR.frozen 3
  have f4 := hR.frozen 4
  have f5 := hR.frozen 5
  have f6 := hR.frozen 6
  have hlt := hR.lt
  simp at r0 r1 r2 r3 r4 r5 r6
  have HB3 := Lib.hid (HB2.out.trans (hb3.mono HB2.out.size))
  clear hR hb3 HR2 HB2
  go_wp2_with fail
  refine bodyPost_ret (v := .agg #[.int .i64 4, .int .i64 0, .string (shText ss), .slice none 0 0, .slice none 0 0, .slice none 0 0, .int .i64 0]) (by simp [results, Tryz.results12, go_sem, r0, r1, r2, r3, r4, r5, r6]) rfl ⟨rfl, ?_⟩
  exact ((((((HB3.out.setCell (by simp) _).setCell (by simp) _).setCell (by simp) _).setCell (by simp) _).setCell (by simp) _).setCell (by simp) _).setCell (by simp) _

set_option maxRecDepth 100000 in
set_option maxHeartbeats 1000000 in
theorem text_any (w : World) (s : ByteArray) :
    Calls Tryz.prog 17 #[.agg #[.int .i64 4, .int .i64 0, .string s, .slice none 0 0, .slice none 0 0, .slice none 0 0, .int .i64 0]] w (Same0 w (.tuple #[.string s, .bool true])) := by
  go_enter Tryz.func17, Tryz.ntmps17
  go_wp2_with fail
  have hR := (ResAt.new w #[.int .i64 4, .int .i64 0, .string s, .slice none 0 0, .slice none 0 0, .slice none 0 0, .int .i64 0])
  have HB := Lib.hid (below1 w (.cells #[.int .i64 4, .int .i64 0, .string s, .slice none 0 0, .slice none 0 0, .slice none 0 0, .int .i64 0] 36))
  generalize w.alloc (.cells #[.int .i64 4, .int .i64 0, .string s, .slice none 0 0, .slice none 0 0, .slice none 0 0, .int .i64 0] 36) = w1 at *
  have r0 := hR.cell 0
  have r2 := hR.cell 2
  have r6 := hR.cell 6
  simp at r0 r2 r6
  clear hR
  go_region_held3 (fun w' => w'.cell? ⟨w.heap.size, 0, none⟩ = some (.int .i64 4) ∧ w'.cell? ⟨w.heap.size, 2, none⟩ = some (.string s) ∧ w'.cell? ⟨w.heap.size, 6, none⟩ = some (.int .i64 0)) (go_keep) (fail)
  go_wp2_with fail
  go_ret2
  exact ⟨rfl, HB.out.drew⟩
end Go.Proofs.YtpigccnlembfdaaGreatDoor
