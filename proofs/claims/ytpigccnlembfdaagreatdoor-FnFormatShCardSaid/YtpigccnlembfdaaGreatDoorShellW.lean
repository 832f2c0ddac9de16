/- The walk of spec.shell. Conditions: as each theorem states. -/
import Derived.Test.YtpigccnlembfdaaGreatDoorBare
import Derived.Laws.IdiomStrings
namespace Go.Proofs.YtpigccnlembfdaaGreatDoor
open Go.RowKit Go.Deep

theorem join_more (ts : List (List UInt8)) (k : Nat) (t : List UInt8) (h : ts[k]? = some t) : Lib.join (ts.take (k + 1)) [32] = (if k = 0 then [] else Lib.join (ts.take k) [32] ++ [32]) ++ t := by
  cases ts with
  | nil => simp at h
  | cons x r =>
    cases k with
    | zero => simp at h; subst h; simp [Lib.join_one]
    | succ k =>
      rw [List.getElem?_cons_succ] at h
      rw [if_neg (by omega), List.take_succ_cons, List.take_succ_cons, Lib.join_cons, Lib.join_cons, Lib.joinTail_take_succ _ _ _ _ h]
      simp
theorem join_take_len (ts : List (List UInt8)) (k : Nat) (h : ∀ t ∈ ts, t.length ≤ 4000002) (hk : k ≤ 1000) : (strL (Lib.join (ts.take k) [32])).size ≤ 4000003000 := by
  rw [strL_size]
  have h1 := joinB (ts.take k) (fun t ht => h t (List.mem_of_mem_take ht))
  have h2 : (ts.take k).length ≤ 1000 := by rw [List.length_take]; omega
  have := Nat.mul_le_mul_right 4000003 h2
  omega
theorem word_len {x : V} (hg : x.Good) (hs : x.text.size ≤ 1000000) {t : List UInt8} (h : x.word = some t) : t.length ≤ 4000002 := by
  obtain ⟨k, hh, tt, aL, cL, l, aK, cK, ks, aV, cV, vs⟩ := x
  unfold V.Good at hg
  obtain ⟨-, ⟨q1, q2, q3⟩, -⟩ := hg
  simp only [V.word] at h
  split at h
  · cases h; decide
  split at h
  · cases h; decide
  split at h
  · cases h; decide
  split at h
  · cases h
    split
    · have hb := half_of q1 q2
      have := itoa_len _ hb.1 hb.2
      omega
    · rename_i ho
      have := half_len hh (q3.resolve_left ho).1 (q3.resolve_left ho).2
      omega
  split at h
  · cases h
    simp only [V.text] at hs
    have h1 := shq_length tt.data.toList
    have h2 : tt.data.toList.length = tt.size := by simp
    omega
  · cases h
theorem texts_take (l : List V) (k : Nat) (hk : k ≤ (texts l).1.length) (y : V) (hy : l[k]? = some y) : (∀ t, y.word = some t → (texts l).1[k]? = some t) ∧ (y.word = none → (texts l).2 = false) := by
  induction l generalizing k with
  | nil => simp at hy
  | cons x r ih =>
    cases hx : x.word with
    | none =>
      have e : texts (x :: r) = ([], false) := by simp only [texts, hx]
      rw [e] at hk ⊢
      obtain rfl : k = 0 := by simpa using hk
      simp at hy; subst hy
      exact ⟨(fun t ht => by rw [hx] at ht; cases ht), fun _ => rfl⟩
    | some t' =>
      have e : texts (x :: r) = (t' :: (texts r).1, (texts r).2) := by simp only [texts, hx]
      rw [e] at hk ⊢
      cases k with
      | zero => simp at hy; subst hy; exact ⟨(fun t ht => by rw [hx] at ht; cases ht; rfl), (fun h => by rw [hx] at h; cases h)⟩
      | succ k => exact ih k (by simpa using hk) (by simpa using hy)
theorem shq_quote (l : List UInt8) (h : ∀ c ∈ l, c ≠ 0) : strL (shq l) = (⟨#[39]⟩ : ByteArray) ++ strL (escQ l) ++ ⟨#[39]⟩ := by
  have : shq l = [39] ++ escQ l ++ [39] := by unfold shq; rw [esc_escQ _ h]; simp
  rw [this, ← strL_app, ← strL_app]
  rfl
/-- What shell leaves. -/
def ShellPost (el : List V) (w : World) (e : Ending) (w' : World) : Prop := Below w.heap.size w w' ∧
  (((texts el).2 = true ∧ e = .returned (.tuple #[.string (strL (Lib.join (texts el).1 [32])), .int .i64 0])) ∨ ((texts el).2 = false ∧ e = .returned (.tuple #[.string ⟨#[]⟩, .int .i64 1])) ∨ ∃ s : ByteArray, e = .returned (.tuple #[.string s, .int .i64 2]))
/-- A row of trees, as a loop reads it. -/
def RowIs (W : World) (A : Option Addr) (el : List V) : Prop := ∀ (i : Nat) (x : V), el[i]? = some x → ∃ ad, A = some ad ∧ ad.block < W.heap.size ∧ ∀ (j : Nat) (u : Value), x.cells[j]? = some u → W.cell? (ad.add (i * 6 + j)) = some u
set_option maxRecDepth 100000 in
set_option maxHeartbeats 8000000 in
theorem shell_any (w : World) (x : V) (B : Nat) (hB : B ≤ w.heap.size) (hin : x.In w B) (hg : ∀ y ∈ x.elems, y.Good) (hs : ∀ y ∈ x.elems, y.text.size ≤ 1000000) (hn0 : ∀ y ∈ x.elems, ∀ c ∈ y.text.data.toList, c ≠ 0) (hl : x.elems.length ≤ 1000) :
    Calls Tryz.prog 39 #[x.val] w (ShellPost x.elems w) := by
  obtain ⟨Q, hQ⟩ : ∃ Q, Q = ShellPost x.elems w := ⟨_, rfl⟩
  rw [← hQ]
  have HQ : Hid (∀ e w', Below w.heap.size w w' → (((texts x.elems).2 = true ∧ e = .returned (.tuple #[.string (strL (Lib.join (texts x.elems).1 [32])), .int .i64 0])) ∨ ((texts x.elems).2 = false ∧ e = .returned (.tuple #[.string ⟨#[]⟩, .int .i64 1])) ∨ ∃ s : ByteArray, e = .returned (.tuple #[.string s, .int .i64 2])) → Q e w') := Lib.hid fun e w' h1 h2 => by rw [hQ]; exact ⟨h1, h2⟩
  clear hQ
  obtain ⟨el, hel⟩ : ∃ el, el = x.elems := ⟨_, rfl⟩
  rw [← hel] at HQ hg hs hn0 hl
  have hwl : ∀ t ∈ (texts el).1, t.length ≤ 4000002 := fun t ht => by
    obtain ⟨i, hi, rfl⟩ := List.mem_iff_getElem.1 ht
    obtain ⟨y, hy, hw⟩ := texts_at el i _ (List.getElem?_eq_getElem hi)
    have hm := List.mem_of_getElem? hy
    exact word_len (hg y hm) (hs y hm) hw
  have hloop : Hid (∀ (W : World) (A : Option Addr) (c : Nat), True) := Lib.hid fun _ _ _ => trivial
  obtain ⟨k, h, t, aL, cL, l, aK, cK, ks, aV, cV, vs⟩ := x
  have hIn := hin
  unfold V.In at hin
  obtain ⟨-, hrow, -⟩ := hin
  rw [V.val_mk]
  obtain ⟨a, ha⟩ : ∃ a, a = Value.slice aL l.length cL := ⟨_, rfl⟩
  obtain ⟨b, hb⟩ : ∃ b, b = Value.slice aK ks.length cK := ⟨_, rfl⟩
  obtain ⟨cc, hcc⟩ : ∃ c, c = Value.slice aV vs.length cV := ⟨_, rfl⟩
  obtain ⟨n, hn⟩ : ∃ n, n = el.length := ⟨_, rfl⟩
  have HN := Lib.hid hn
  have HG := Lib.hid (And.intro hg (And.intro hs (And.intro hn0 hwl)))
  have hn1000 : n ≤ 1000 := by omega
  have hbx := box_six w k h t a b cc
  have hB1 := below1 w (.cells #[.int .i64 k, .int .i64 h, .string t, a, b, cc] 26)
  by_cases h5 : k = 5
  · have hell : el = l := by rw [hel]; simp [V.elems, V.kind, V.list, h5]
    subst h5
    rw [← hb, ← hcc]
    subst hell
    rw [← hn] at ha ⊢
    have hB1' : Below w.heap.size w ((w.alloc (.cells #[.int .i64 5, .int .i64 h, .string t, a, b, cc] 26)).alloc (.cells #[.int .i64 5, .int .i64 h, .string t, a, b, cc] 26)) := below2 _ _ _
    have hrw : RowIs ((w.alloc (.cells #[.int .i64 5, .int .i64 h, .string t, a, b, cc] 26)).alloc (.cells #[.int .i64 5, .int .i64 h, .string t, a, b, cc] 26)) aL el := fun i x hx => by
      obtain ⟨ad, e, hlt, hc⟩ := hrow (by rintro rfl; simp at hx)
      refine ⟨ad, e, by simp; omega, fun j u hu => ?_⟩
      rw [World.cell?_alloc_lt _ _ _ (by rw [block_of_add]; simp; omega), World.cell?_alloc_lt _ _ _ (by rw [block_of_add]; omega)]
      exact hc i x hx j u hu
    have r0 := hbx 0
    have r3 := hbx 3
    simp only [List.getElem?_toArray, List.getElem?_cons_zero, List.getElem?_cons_succ] at r0 r3
    rw [ha] at r0 r3 hrw hB1'
    clear hbx ha hg hs hn0 hl hwl hel hrow hIn hn hb hcc
    have HB1 := Lib.hid hB1'
    have HRW := Lib.hid hrw
    clear hB1 hB1' hrw
    go_enter Tryz.func39, Tryz.ntmps39
    go_wp2_with fail
    generalize (w.alloc (.cells #[.int .i64 5, .int .i64 h, .string t, .slice aL n cL, b, cc] 26)).alloc (.cells #[.int .i64 5, .int .i64 h, .string t, .slice aL n cL, b, cc] 26) = W at *
    clear r0 r3
    go_loopw [5, 19] (fun tv iv wr => ∃ k : Nat, k ≤ n ∧ iv = .int .i64 k ∧ tv = .string (strL (Lib.join ((texts el).1.take k) [32])) ∧ k ≤ (texts el).1.length ∧ Below w.heap.size w wr ∧ Below W.heap.size W wr) (fun _ iv _ => n - (intOf iv).toNat)
    case atStart => exact ⟨0, Nat.zero_le _, rfl, by simp [Lib.join_nil]; rfl, Nat.zero_le _, HB1.out, Below.refl _ _⟩
    case round =>
      obtain ⟨k, hk, rfl, rfl, hkt, hbw1, hbw2⟩ := hrel
      have HBW := Lib.hid (And.intro hbw1 hbw2)
      have hTs := join_take_len (texts el).1 k HG.out.2.2.2 (by omega)
      obtain ⟨T, hT⟩ : ∃ T, T = strL (Lib.join ((texts el).1.take k) [32]) := ⟨_, rfl⟩
      rw [← hT] at hTs ⊢
      by_cases hlt : k < n
      · obtain ⟨y, hy⟩ : ∃ y, el[k]? = some y := ⟨_, List.getElem?_eq_getElem (by rw [← HN.out]; exact hlt)⟩
        obtain ⟨ad, rfl, had, hcy⟩ := HRW.out k y hy
        have hc : ∀ (j : Nat) (u : Value), y.cells[j]? = some u → wr.cell? (ad.add (k * 6 + j)) = some u := fun j u hu => (hbw2.cell (by rw [block_of_add]; exact had)).trans (hcy j u hu)
        have hmem := List.mem_of_getElem? hy
        have hyg := HG.out.1 y hmem
        obtain ⟨hj1, hj2⟩ := texts_take el k hkt y hy
        have HWN : Hid (5 ≤ y.kind → (texts el).2 = false) := Lib.hid fun h => hj2 (by
          obtain ⟨yk, yh, yt, yaL, ycL, yl, yaK, ycK, yks, yaV, ycV, yvs⟩ := y
          simp only [V.kind] at h
          simp only [V.word]
          rw [if_neg (by omega), if_neg (by omega), if_neg (by omega), if_neg (by omega), if_neg (by omega)])
        have HWL : Hid (∀ t, y.word = some t → t.length ≤ 4000002) := Lib.hid fun t ht => word_len hyg (HG.out.2.1 y hmem) ht
        have HBR : Hid (∀ w', Calls Tryz.prog 52 #[y.val] w' (BarePost y w')) := Lib.hid fun w' => bare_any w' y hyg
        have HYT : Hid (y.text.size ≤ 1000000 ∧ ∀ c ∈ y.text.data.toList, c ≠ 0) := Lib.hid ⟨HG.out.2.1 y hmem, HG.out.2.2.1 y hmem⟩
        have HJ0 : Hid (∀ t, y.word = some t → k + 1 ≤ (texts el).1.length ∧ Lib.join ((texts el).1.take (k + 1)) [32] = (if k = 0 then [] else Lib.join ((texts el).1.take k) [32] ++ [32]) ++ t) := Lib.hid fun t ht => by
          have := hj1 t ht
          exact ⟨(List.getElem?_eq_some_iff.1 this).1, join_more _ k t this⟩
        have HYG : Hid (0 ≤ y.kind) := Lib.hid (by
          obtain ⟨yk, yh, yt, yaL, ycL, yl, yaK, ycK, yks, yaV, ycV, yvs⟩ := y
          unfold V.Good at hyg
          exact hyg.1.1)
        obtain ⟨yk, yh, yt, yaL, ycL, yl, yaK, ycK, yks, yaV, ycV, yvs⟩ := y
        obtain ⟨d0, d1, d2, d3, d4, d5⟩ := six hc
        rw [V.val_mk] at HBR
        simp only [V.text] at HYT
        simp only [V.kind] at HYG
        clear hc hmem hy hcy hyg hj1 hj2 hbw1 hbw2
        by_cases hk0 : k = 0
        · subst hk0
          have HJ : Hid (∀ t, (V.mk yk yh yt yaL ycL yl yaK ycK yks yaV ycV yvs).word = some t → 0 + 1 ≤ (texts el).1.length ∧ strL (Lib.join ((texts el).1.take (0 + 1)) [32]) = T ++ strL t) := Lib.hid fun t ht => by
            obtain ⟨h1, h2⟩ := HJ0.out t ht
            refine ⟨h1, ?_⟩
            rw [h2, if_pos rfl, ← strL_app, hT]
            rfl
          have ea : ad.add (0 * 6) = ad := by unfold Addr.add; simp
          rw [ea] at d0 d1 d2 d3 d4 d5
          clear HJ0 hT ea
          go_wp2_with fail
          refine (HBR.out _).mono ?_
          rintro e w2 ⟨hb2, ⟨hk5, rfl⟩ | ⟨hk4, rfl⟩ | ⟨s2, hs2, rfl⟩⟩
          · have hbA : Below wr.heap.size wr w2 := ((Below.refl _ _).alloc (Nat.le_refl _) _).trans (hb2.mono (by simp))
            have HB2 := Lib.hid (And.intro (HBW.out.1.trans (hbA.mono HBW.out.1.size)) (HBW.out.2.trans (hbA.mono HBW.out.2.size)))
            have HK5 := Lib.hid hk5
            clear hb2 hbA
            go_wp2_with fail
            exact HQ.out _ _ HB2.out.1 (Or.inr (Or.inl ⟨HWN.out HK5.out, rfl⟩))
          · have hx0 : w2.cell? ⟨wr.heap.size, 0, none⟩ = some (.int .i64 yk) := (hb2.cell (p := ⟨wr.heap.size, 0, none⟩) (by simp)).trans (box_six wr yk yh yt _ _ _ 0)
            have hxl : wr.heap.size < w2.heap.size := by have := hb2.size; simp at this; omega
            have hbA : Below wr.heap.size wr w2 := ((Below.refl _ _).alloc (Nat.le_refl _) _).trans (hb2.mono (by simp))
            have HB2 := Lib.hid (And.intro (HBW.out.1.trans (hbA.mono HBW.out.1.size)) (HBW.out.2.trans (hbA.mono HBW.out.2.size)))
            simp only [V.kind] at hk4
            clear hb2 hbA
            have hks : yk = 0 ∨ yk = 4 ∨ (yk = 1 ∨ yk = 2 ∨ yk = 3) := by have := HYG.out; omega
            rcases hks with rfl | rfl | hk3
            · obtain ⟨U, hU⟩ : ∃ U, U = strL (V.mk 0 yh yt yaL ycL yl yaK ycK yks yaV ycV yvs).bareT := ⟨_, rfl⟩
              rw [← hU]
              clear hU
              go_wp2_with fail
              go_roundw
              case rel =>
                obtain ⟨hj1, hj2⟩ := HJ.out _ (show (V.mk 0 yh yt yaL ycL yl yaK ycK yks yaV ycV yvs).word = some [110, 117, 108, 108] by simp [V.word])
                refine ⟨0 + 1, by omega, by go_num, ?_, hj1, HB2.out.1, HB2.out.2⟩
                rw [hj2]; rfl
              case measure => simp [intOf]; omega
            · obtain ⟨U, hU⟩ : ∃ U, U = strL (V.mk 4 yh yt yaL ycL yl yaK ycK yks yaV ycV yvs).bareT := ⟨_, rfl⟩
              have hUt : U = yt := by rw [hU]; simp [V.bareT, strL_back]
              rw [← hU, hUt]
              clear hU hUt
              have hpa : PairAt (w2.alloc (.cells #[.string ⟨#[39]⟩, .string ⟨#[39, 92, 39, 39]⟩] 9)) w2.heap.size := heap_alloc_new w2 _
              have hch := changed_any _ yt w2.heap.size HYT.out.1 hpa
              obtain ⟨R, hR⟩ : ∃ R, R = strL (escQ yt.data.toList) := ⟨_, rfl⟩
              have hRs : R.size ≤ 4000000 := by
                rw [hR, strL_size]
                have h1 := escQ_len yt.data.toList
                have h2 : yt.data.toList.length = yt.size := by simp
                have := HYT.out.1
                omega
              rw [← hR] at hch
              have HCH := Lib.hid hch
              have HRR := Lib.hid hR
              have HB3 := Lib.hid (And.intro (HB2.out.1.alloc HB2.out.1.size (.cells #[.string ⟨#[39]⟩, .string ⟨#[39, 92, 39, 39]⟩] 9)) (HB2.out.2.alloc HB2.out.2.size (.cells #[.string ⟨#[39]⟩, .string ⟨#[39, 92, 39, 39]⟩] 9)))
              clear hch hR hpa
              go_wp2_with fail
              refine HCH.out.mono ?_
              rintro e w3 ⟨rfl, rfl⟩
              go_wp2_with fail
              go_roundw
              case rel =>
                obtain ⟨hj1, hj2⟩ := HJ.out _ (show (V.mk 4 yh yt yaL ycL yl yaK ycK yks yaV ycV yvs).word = some (shq yt.data.toList) by simp [V.word])
                refine ⟨0 + 1, by omega, by go_num, ?_, hj1, HB3.out.1, HB3.out.2⟩
                rw [hj2, HRR.out, shq_quote _ HYT.out.2]
              case measure => simp [intOf]; omega
            · have hb0 : (yk == 0) = false := by rw [beq_eq_false_iff_ne]; omega
              have hb4 : (yk == 4) = false := by rw [beq_eq_false_iff_ne]; omega
              obtain ⟨U, hU⟩ : ∃ U, U = (V.mk yk yh yt yaL ycL yl yaK ycK yks yaV ycV yvs).bareT := ⟨_, rfl⟩
              have hw : (V.mk yk yh yt yaL ycL yl yaK ycK yks yaV ycV yvs).word = some U := by
                rw [hU]; unfold V.word V.bareT
                rcases hk3 with rfl | rfl | rfl <;> simp [figs]
              have hUs : (strL U).size ≤ 4000002 := by rw [strL_size]; exact HWL.out U hw
              rw [← hU]
              have HW := Lib.hid hw
              obtain ⟨UU, hUU⟩ : ∃ UU, UU = strL U := ⟨_, rfl⟩
              rw [← hUU] at hUs ⊢
              have HUU := Lib.hid hUU
              clear hU hw hUU hk3
              go_wp2_with fail
              go_roundw
              case rel =>
                obtain ⟨hj1, hj2⟩ := HJ.out _ HW.out
                refine ⟨0 + 1, by omega, by go_num, ?_, hj1, HB2.out.1, HB2.out.2⟩
                rw [hj2, HUU.out]
              case measure => simp [intOf]; omega
          · have hbA : Below wr.heap.size wr w2 := ((Below.refl _ _).alloc (Nat.le_refl _) _).trans (hb2.mono (by simp))
            have HB2 := Lib.hid (And.intro (HBW.out.1.trans (hbA.mono HBW.out.1.size)) (HBW.out.2.trans (hbA.mono HBW.out.2.size)))
            clear hb2 hbA
            go_wp2_with fail
            exact HQ.out _ _ HB2.out.1 (Or.inr (Or.inr ⟨_, rfl⟩))
        · have HJ : Hid (∀ t, (V.mk yk yh yt yaL ycL yl yaK ycK yks yaV ycV yvs).word = some t → k + 1 ≤ (texts el).1.length ∧ strL (Lib.join ((texts el).1.take (k + 1)) [32]) = T ++ ⟨#[32]⟩ ++ strL t) := Lib.hid fun t ht => by
            obtain ⟨h1, h2⟩ := HJ0.out t ht
            refine ⟨h1, ?_⟩
            rw [h2, if_neg hk0, ← strL_app, ← strL_app, hT]
            rfl
          have hkp : (0 : Int) < (k : Int) := by omega
          clear HJ0 hT
          go_wp2_with fail
          refine (HBR.out _).mono ?_
          rintro e w2 ⟨hb2, ⟨hk5, rfl⟩ | ⟨hk4, rfl⟩ | ⟨s2, hs2, rfl⟩⟩
          · have hbA : Below wr.heap.size wr w2 := ((Below.refl _ _).alloc (Nat.le_refl _) _).trans (hb2.mono (by simp))
            have HB2 := Lib.hid (And.intro (HBW.out.1.trans (hbA.mono HBW.out.1.size)) (HBW.out.2.trans (hbA.mono HBW.out.2.size)))
            have HK5 := Lib.hid hk5
            clear hb2 hbA
            go_wp2_with fail
            exact HQ.out _ _ HB2.out.1 (Or.inr (Or.inl ⟨HWN.out HK5.out, rfl⟩))
          · have hx0 : w2.cell? ⟨wr.heap.size, 0, none⟩ = some (.int .i64 yk) := (hb2.cell (p := ⟨wr.heap.size, 0, none⟩) (by simp)).trans (box_six wr yk yh yt _ _ _ 0)
            have hxl : wr.heap.size < w2.heap.size := by have := hb2.size; simp at this; omega
            have hbA : Below wr.heap.size wr w2 := ((Below.refl _ _).alloc (Nat.le_refl _) _).trans (hb2.mono (by simp))
            have HB2 := Lib.hid (And.intro (HBW.out.1.trans (hbA.mono HBW.out.1.size)) (HBW.out.2.trans (hbA.mono HBW.out.2.size)))
            simp only [V.kind] at hk4
            clear hb2 hbA
            have hks : yk = 0 ∨ yk = 4 ∨ (yk = 1 ∨ yk = 2 ∨ yk = 3) := by have := HYG.out; omega
            rcases hks with rfl | rfl | hk3
            · obtain ⟨U, hU⟩ : ∃ U, U = strL (V.mk 0 yh yt yaL ycL yl yaK ycK yks yaV ycV yvs).bareT := ⟨_, rfl⟩
              rw [← hU]
              clear hU
              go_wp2_with fail
              go_roundw
              case rel =>
                obtain ⟨hj1, hj2⟩ := HJ.out _ (show (V.mk 0 yh yt yaL ycL yl yaK ycK yks yaV ycV yvs).word = some [110, 117, 108, 108] by simp [V.word])
                refine ⟨k + 1, by omega, by go_num, ?_, hj1, HB2.out.1, HB2.out.2⟩
                rw [hj2]; rfl
              case measure => simp [intOf]; omega
            · obtain ⟨U, hU⟩ : ∃ U, U = strL (V.mk 4 yh yt yaL ycL yl yaK ycK yks yaV ycV yvs).bareT := ⟨_, rfl⟩
              have hUt : U = yt := by rw [hU]; simp [V.bareT, strL_back]
              rw [← hU, hUt]
              clear hU hUt
              have hpa : PairAt (w2.alloc (.cells #[.string ⟨#[39]⟩, .string ⟨#[39, 92, 39, 39]⟩] 9)) w2.heap.size := heap_alloc_new w2 _
              have hch := changed_any _ yt w2.heap.size HYT.out.1 hpa
              obtain ⟨R, hR⟩ : ∃ R, R = strL (escQ yt.data.toList) := ⟨_, rfl⟩
              have hRs : R.size ≤ 4000000 := by
                rw [hR, strL_size]
                have h1 := escQ_len yt.data.toList
                have h2 : yt.data.toList.length = yt.size := by simp
                have := HYT.out.1
                omega
              rw [← hR] at hch
              have HCH := Lib.hid hch
              have HRR := Lib.hid hR
              have HB3 := Lib.hid (And.intro (HB2.out.1.alloc HB2.out.1.size (.cells #[.string ⟨#[39]⟩, .string ⟨#[39, 92, 39, 39]⟩] 9)) (HB2.out.2.alloc HB2.out.2.size (.cells #[.string ⟨#[39]⟩, .string ⟨#[39, 92, 39, 39]⟩] 9)))
              clear hch hR hpa
              go_wp2_with fail
              refine HCH.out.mono ?_
              rintro e w3 ⟨rfl, rfl⟩
              go_wp2_with fail
              go_roundw
              case rel =>
                obtain ⟨hj1, hj2⟩ := HJ.out _ (show (V.mk 4 yh yt yaL ycL yl yaK ycK yks yaV ycV yvs).word = some (shq yt.data.toList) by simp [V.word])
                refine ⟨k + 1, by omega, by go_num, ?_, hj1, HB3.out.1, HB3.out.2⟩
                rw [hj2, HRR.out, shq_quote _ HYT.out.2]
              case measure => simp [intOf]; omega
            · have hb0 : (yk == 0) = false := by rw [beq_eq_false_iff_ne]; omega
              have hb4 : (yk == 4) = false := by rw [beq_eq_false_iff_ne]; omega
              obtain ⟨U, hU⟩ : ∃ U, U = (V.mk yk yh yt yaL ycL yl yaK ycK yks yaV ycV yvs).bareT := ⟨_, rfl⟩
              have hw : (V.mk yk yh yt yaL ycL yl yaK ycK yks yaV ycV yvs).word = some U := by
                rw [hU]; unfold V.word V.bareT
                rcases hk3 with rfl | rfl | rfl <;> simp [figs]
              have hUs : (strL U).size ≤ 4000002 := by rw [strL_size]; exact HWL.out U hw
              rw [← hU]
              have HW := Lib.hid hw
              obtain ⟨UU, hUU⟩ : ∃ UU, UU = strL U := ⟨_, rfl⟩
              rw [← hUU] at hUs ⊢
              have HUU := Lib.hid hUU
              clear hU hw hUU hk3
              go_wp2_with fail
              go_roundw
              case rel =>
                obtain ⟨hj1, hj2⟩ := HJ.out _ HW.out
                refine ⟨k + 1, by omega, by go_num, ?_, hj1, HB2.out.1, HB2.out.2⟩
                rw [hj2, HUU.out]
              case measure => simp [intOf]; omega
          · have hbA : Below wr.heap.size wr w2 := ((Below.refl _ _).alloc (Nat.le_refl _) _).trans (hb2.mono (by simp))
            have HB2 := Lib.hid (And.intro (HBW.out.1.trans (hbA.mono HBW.out.1.size)) (HBW.out.2.trans (hbA.mono HBW.out.2.size)))
            clear hb2 hbA
            go_wp2_with fail
            exact HQ.out _ _ HB2.out.1 (Or.inr (Or.inr ⟨_, rfl⟩))
      · have hkn : k = n := by omega
        have hfin : (texts el).2 = true ∧ T = strL (Lib.join (texts el).1 [32]) := by
          obtain ⟨h1, h2, h3⟩ := texts_len el
          have hln := HN.out
          refine ⟨?_, by rw [hT, List.take_of_length_le (by omega)]⟩
          cases hb : (texts el).2 with
          | true => rfl
          | false =>
            obtain ⟨y, hy, _⟩ := h3 hb
            have := (List.getElem?_eq_some_iff.1 hy).1
            omega
        have HFI := Lib.hid hfin
        clear hbw1 hbw2 hT hfin
        go_wp2_with fail
        exact HQ.out _ _ HBW.out.1 (Or.inl ⟨HFI.out.1, by rw [← HFI.out.2]; rfl⟩)
  · have hell : el = [V.mk k h t aL cL l aK cK ks aV cV vs] := by rw [hel]; simp [V.elems, V.kind, h5]
    have hn1 : n = 1 := by rw [hn, hell]; rfl
    rw [← ha, ← hb, ← hcc]
    have hrw : RowIs ((w.alloc (.cells #[.int .i64 k, .int .i64 h, .string t, a, b, cc] 26)).alloc (.cells #[.int .i64 k, .int .i64 h, .string t, a, b, cc] 26)) (some ⟨w.heap.size + 1, 0, none⟩) el := fun i x hx => by
      rw [hell] at hx
      obtain rfl : i = 0 := by rcases i with _ | i; rfl; simp at hx
      obtain rfl : V.mk k h t aL cL l aK cK ks aV cV vs = x := by simpa using hx
      refine ⟨_, rfl, by simp, fun j u hu => ?_⟩
      have hnew := heap_alloc_new (w.alloc (.cells #[.int .i64 k, .int .i64 h, .string t, a, b, cc] 26)) (Obj.cells #[.int .i64 k, .int .i64 h, .string t, a, b, cc] 26)
      rw [World.size_alloc] at hnew
      rw [show (⟨w.heap.size + 1, 0, none⟩ : Addr).add (0 * 6 + j) = ⟨w.heap.size + 1, j, none⟩ by unfold Addr.add; split <;> simp_all, cell_of_row _ (w.heap.size + 1) j _ _ _ hnew, ha, hb, hcc]
      simpa [V.cells] using hu
    have r0 := hbx 0
    simp only [List.getElem?_toArray, List.getElem?_cons_zero] at r0
    have hk5 : (k == 5) = false := by rw [beq_eq_false_iff_ne]; exact h5
    have hB2 : Below w.heap.size w ((w.alloc (.cells #[.int .i64 k, .int .i64 h, .string t, a, b, cc] 26)).alloc (.cells #[.int .i64 k, .int .i64 h, .string t, a, b, cc] 26)) := below2 _ _ _
    obtain ⟨aR, haR⟩ : ∃ aR : Option Addr, aR = some ⟨w.heap.size + 1, 0, none⟩ := ⟨_, rfl⟩
    rw [← haR] at hrw
    have HAR := Lib.hid haR
    clear hbx ha hb hcc hg hs hn0 hl hwl hel hrow hIn hn hell h5 hB1 haR
    have HB1 := Lib.hid hB2
    have HRW := Lib.hid hrw
    clear hB2 hrw
    go_enter Tryz.func39, Tryz.ntmps39
    go_wp2_with fail
    generalize (w.alloc (.cells #[.int .i64 k, .int .i64 h, .string t, a, b, cc] 26)).alloc (.cells #[.int .i64 k, .int .i64 h, .string t, a, b, cc] 26) = W at *
    clear r0
    rw [← HAR.out]
    subst hn1
    go_loopw [5, 19] (fun tv iv wr => ∃ k : Nat, k ≤ 1 ∧ iv = .int .i64 k ∧ tv = .string (strL (Lib.join ((texts el).1.take k) [32])) ∧ k ≤ (texts el).1.length ∧ Below w.heap.size w wr ∧ Below W.heap.size W wr) (fun _ iv _ => 1 - (intOf iv).toNat)
    case atStart => exact ⟨0, Nat.zero_le _, rfl, by simp [Lib.join_nil]; rfl, Nat.zero_le _, HB1.out, Below.refl _ _⟩
    case round =>
      obtain ⟨k, hk, rfl, rfl, hkt, hbw1, hbw2⟩ := hrel
      have HBW := Lib.hid (And.intro hbw1 hbw2)
      have hTs := join_take_len (texts el).1 k HG.out.2.2.2 (by omega)
      obtain ⟨T, hT⟩ : ∃ T, T = strL (Lib.join ((texts el).1.take k) [32]) := ⟨_, rfl⟩
      rw [← hT] at hTs ⊢
      by_cases hlt : k < 1
      · obtain ⟨y, hy⟩ : ∃ y, el[k]? = some y := ⟨_, List.getElem?_eq_getElem (by rw [← HN.out]; exact hlt)⟩
        obtain ⟨ad, rfl, had, hcy⟩ := HRW.out k y hy
        have hc : ∀ (j : Nat) (u : Value), y.cells[j]? = some u → wr.cell? (ad.add (k * 6 + j)) = some u := fun j u hu => (hbw2.cell (by rw [block_of_add]; exact had)).trans (hcy j u hu)
        have hmem := List.mem_of_getElem? hy
        have hyg := HG.out.1 y hmem
        obtain ⟨hj1, hj2⟩ := texts_take el k hkt y hy
        have HWN : Hid (5 ≤ y.kind → (texts el).2 = false) := Lib.hid fun h => hj2 (by
          obtain ⟨yk, yh, yt, yaL, ycL, yl, yaK, ycK, yks, yaV, ycV, yvs⟩ := y
          simp only [V.kind] at h
          simp only [V.word]
          rw [if_neg (by omega), if_neg (by omega), if_neg (by omega), if_neg (by omega), if_neg (by omega)])
        have HWL : Hid (∀ t, y.word = some t → t.length ≤ 4000002) := Lib.hid fun t ht => word_len hyg (HG.out.2.1 y hmem) ht
        have HBR : Hid (∀ w', Calls Tryz.prog 52 #[y.val] w' (BarePost y w')) := Lib.hid fun w' => bare_any w' y hyg
        have HYT : Hid (y.text.size ≤ 1000000 ∧ ∀ c ∈ y.text.data.toList, c ≠ 0) := Lib.hid ⟨HG.out.2.1 y hmem, HG.out.2.2.1 y hmem⟩
        have HJ0 : Hid (∀ t, y.word = some t → k + 1 ≤ (texts el).1.length ∧ Lib.join ((texts el).1.take (k + 1)) [32] = (if k = 0 then [] else Lib.join ((texts el).1.take k) [32] ++ [32]) ++ t) := Lib.hid fun t ht => by
          have := hj1 t ht
          exact ⟨(List.getElem?_eq_some_iff.1 this).1, join_more _ k t this⟩
        have HYG : Hid (0 ≤ y.kind) := Lib.hid (by
          obtain ⟨yk, yh, yt, yaL, ycL, yl, yaK, ycK, yks, yaV, ycV, yvs⟩ := y
          unfold V.Good at hyg
          exact hyg.1.1)
        obtain ⟨yk, yh, yt, yaL, ycL, yl, yaK, ycK, yks, yaV, ycV, yvs⟩ := y
        obtain ⟨d0, d1, d2, d3, d4, d5⟩ := six hc
        rw [V.val_mk] at HBR
        simp only [V.text] at HYT
        simp only [V.kind] at HYG
        clear hc hmem hy hcy hyg hj1 hj2 hbw1 hbw2
        by_cases hk0 : k = 0
        · subst hk0
          have HJ : Hid (∀ t, (V.mk yk yh yt yaL ycL yl yaK ycK yks yaV ycV yvs).word = some t → 0 + 1 ≤ (texts el).1.length ∧ strL (Lib.join ((texts el).1.take (0 + 1)) [32]) = T ++ strL t) := Lib.hid fun t ht => by
            obtain ⟨h1, h2⟩ := HJ0.out t ht
            refine ⟨h1, ?_⟩
            rw [h2, if_pos rfl, ← strL_app, hT]
            rfl
          have ea : ad.add (0 * 6) = ad := by unfold Addr.add; simp
          rw [ea] at d0 d1 d2 d3 d4 d5
          clear HJ0 hT ea
          go_wp2_with fail
          refine (HBR.out _).mono ?_
          rintro e w2 ⟨hb2, ⟨hk5, rfl⟩ | ⟨hk4, rfl⟩ | ⟨s2, hs2, rfl⟩⟩
          · have hbA : Below wr.heap.size wr w2 := ((Below.refl _ _).alloc (Nat.le_refl _) _).trans (hb2.mono (by simp))
            have HB2 := Lib.hid (And.intro (HBW.out.1.trans (hbA.mono HBW.out.1.size)) (HBW.out.2.trans (hbA.mono HBW.out.2.size)))
            have HK5 := Lib.hid hk5
            clear hb2 hbA
            go_wp2_with fail
            exact HQ.out _ _ HB2.out.1 (Or.inr (Or.inl ⟨HWN.out HK5.out, rfl⟩))
          · have hx0 : w2.cell? ⟨wr.heap.size, 0, none⟩ = some (.int .i64 yk) := (hb2.cell (p := ⟨wr.heap.size, 0, none⟩) (by simp)).trans (box_six wr yk yh yt _ _ _ 0)
            have hxl : wr.heap.size < w2.heap.size := by have := hb2.size; simp at this; omega
            have hbA : Below wr.heap.size wr w2 := ((Below.refl _ _).alloc (Nat.le_refl _) _).trans (hb2.mono (by simp))
            have HB2 := Lib.hid (And.intro (HBW.out.1.trans (hbA.mono HBW.out.1.size)) (HBW.out.2.trans (hbA.mono HBW.out.2.size)))
            simp only [V.kind] at hk4
            clear hb2 hbA
            have hks : yk = 0 ∨ yk = 4 ∨ (yk = 1 ∨ yk = 2 ∨ yk = 3) := by have := HYG.out; omega
            rcases hks with rfl | rfl | hk3
            · obtain ⟨U, hU⟩ : ∃ U, U = strL (V.mk 0 yh yt yaL ycL yl yaK ycK yks yaV ycV yvs).bareT := ⟨_, rfl⟩
              rw [← hU]
              clear hU
              go_wp2_with fail
              go_roundw
              case rel =>
                obtain ⟨hj1, hj2⟩ := HJ.out _ (show (V.mk 0 yh yt yaL ycL yl yaK ycK yks yaV ycV yvs).word = some [110, 117, 108, 108] by simp [V.word])
                refine ⟨0 + 1, by omega, by go_num, ?_, hj1, HB2.out.1, HB2.out.2⟩
                rw [hj2]; rfl
              case measure => simp [intOf]
            · obtain ⟨U, hU⟩ : ∃ U, U = strL (V.mk 4 yh yt yaL ycL yl yaK ycK yks yaV ycV yvs).bareT := ⟨_, rfl⟩
              have hUt : U = yt := by rw [hU]; simp [V.bareT, strL_back]
              rw [← hU, hUt]
              clear hU hUt
              have hpa : PairAt (w2.alloc (.cells #[.string ⟨#[39]⟩, .string ⟨#[39, 92, 39, 39]⟩] 9)) w2.heap.size := heap_alloc_new w2 _
              have hch := changed_any _ yt w2.heap.size HYT.out.1 hpa
              obtain ⟨R, hR⟩ : ∃ R, R = strL (escQ yt.data.toList) := ⟨_, rfl⟩
              have hRs : R.size ≤ 4000000 := by
                rw [hR, strL_size]
                have h1 := escQ_len yt.data.toList
                have h2 : yt.data.toList.length = yt.size := by simp
                have := HYT.out.1
                omega
              rw [← hR] at hch
              have HCH := Lib.hid hch
              have HRR := Lib.hid hR
              have HB3 := Lib.hid (And.intro (HB2.out.1.alloc HB2.out.1.size (.cells #[.string ⟨#[39]⟩, .string ⟨#[39, 92, 39, 39]⟩] 9)) (HB2.out.2.alloc HB2.out.2.size (.cells #[.string ⟨#[39]⟩, .string ⟨#[39, 92, 39, 39]⟩] 9)))
              clear hch hR hpa
              go_wp2_with fail
              refine HCH.out.mono ?_
              rintro e w3 ⟨rfl, rfl⟩
              go_wp2_with fail
              go_roundw
              case rel =>
                obtain ⟨hj1, hj2⟩ := HJ.out _ (show (V.mk 4 yh yt yaL ycL yl yaK ycK yks yaV ycV yvs).word = some (shq yt.data.toList) by simp [V.word])
                refine ⟨0 + 1, by omega, by go_num, ?_, hj1, HB3.out.1, HB3.out.2⟩
                rw [hj2, HRR.out, shq_quote _ HYT.out.2]
              case measure => simp [intOf]
            · have hb0 : (yk == 0) = false := by rw [beq_eq_false_iff_ne]; omega
              have hb4 : (yk == 4) = false := by rw [beq_eq_false_iff_ne]; omega
              obtain ⟨U, hU⟩ : ∃ U, U = (V.mk yk yh yt yaL ycL yl yaK ycK yks yaV ycV yvs).bareT := ⟨_, rfl⟩
              have hw : (V.mk yk yh yt yaL ycL yl yaK ycK yks yaV ycV yvs).word = some U := by
                rw [hU]; unfold V.word V.bareT
                rcases hk3 with rfl | rfl | rfl <;> simp [figs]
              have hUs : (strL U).size ≤ 4000002 := by rw [strL_size]; exact HWL.out U hw
              rw [← hU]
              have HW := Lib.hid hw
              obtain ⟨UU, hUU⟩ : ∃ UU, UU = strL U := ⟨_, rfl⟩
              rw [← hUU] at hUs ⊢
              have HUU := Lib.hid hUU
              clear hU hw hUU hk3
              go_wp2_with fail
              go_roundw
              case rel =>
                obtain ⟨hj1, hj2⟩ := HJ.out _ HW.out
                refine ⟨0 + 1, by omega, by go_num, ?_, hj1, HB2.out.1, HB2.out.2⟩
                rw [hj2, HUU.out]
              case measure => simp [intOf]
          · have hbA : Below wr.heap.size wr w2 := ((Below.refl _ _).alloc (Nat.le_refl _) _).trans (hb2.mono (by simp))
            have HB2 := Lib.hid (And.intro (HBW.out.1.trans (hbA.mono HBW.out.1.size)) (HBW.out.2.trans (hbA.mono HBW.out.2.size)))
            clear hb2 hbA
            go_wp2_with fail
            exact HQ.out _ _ HB2.out.1 (Or.inr (Or.inr ⟨_, rfl⟩))
        · have HJ : Hid (∀ t, (V.mk yk yh yt yaL ycL yl yaK ycK yks yaV ycV yvs).word = some t → k + 1 ≤ (texts el).1.length ∧ strL (Lib.join ((texts el).1.take (k + 1)) [32]) = T ++ ⟨#[32]⟩ ++ strL t) := Lib.hid fun t ht => by
            obtain ⟨h1, h2⟩ := HJ0.out t ht
            refine ⟨h1, ?_⟩
            rw [h2, if_neg hk0, ← strL_app, ← strL_app, hT]
            rfl
          have hkp : (0 : Int) < (k : Int) := by omega
          clear HJ0 hT
          exfalso; omega
      · have hkn : k = 1 := by omega
        have hfin : (texts el).2 = true ∧ T = strL (Lib.join (texts el).1 [32]) := by
          obtain ⟨h1, h2, h3⟩ := texts_len el
          have hln := HN.out
          refine ⟨?_, by rw [hT, List.take_of_length_le (by omega)]⟩
          cases hb : (texts el).2 with
          | true => rfl
          | false =>
            obtain ⟨y, hy, _⟩ := h3 hb
            have := (List.getElem?_eq_some_iff.1 hy).1
            omega
        have HFI := Lib.hid hfin
        clear hbw1 hbw2 hT hfin
        go_wp2_with fail
        exact HQ.out _ _ HBW.out.1 (Or.inl ⟨HFI.out.1, by rw [← HFI.out.2]; rfl⟩)
end Go.Proofs.YtpigccnlembfdaaGreatDoor
