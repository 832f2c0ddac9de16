/- The walks of spec.Cmp and spec.Same where two right values stand for one JSON value: they are the same. Conditions: the trees lie in the world and are right. -/
import Derived.Test.YtpigccnlembfdaaDoorMeld
import Derived.Test.YtpigccnlembfdaaDoorBool
namespace Go.Proofs.YtpigccnlembfdaaDoor
open Go.RowKit Ieee

theorem fbits_inj {a b : Bool} {s s' : Nat} {i i' : Int} (h1 : 4503599627370496 ≤ s) (h2 : s < 9007199254740992) (h3 : 4503599627370496 ≤ s') (h4 : s' < 9007199254740992) (hi : -1000 ≤ i ∧ i ≤ 0) (hi' : -1000 ≤ i' ∧ i' ≤ 0)
    (h : fbits a s i = fbits b s' i') : a = b ∧ s = s' ∧ i = i' := by
  have e1 := read_fbits a s i h1 h2 hi.1 hi.2
  have e2 := read_fbits b s' i' h3 h4 hi'.1 hi'.2
  rw [h, e2] at e1
  cases e1
  exact ⟨rfl, rfl, rfl⟩
theorem odd_bound {h : Int} (hh : C2 h) (ho : h.tmod 2 ≠ 0) : h ≠ 0 ∧ -9007199254740992 < h ∧ h < 9007199254740992 :=
  ⟨by rintro rfl; simp at ho, (hh.2.2.resolve_left ho).1, (hh.2.2.resolve_left ho).2⟩
/-- Halves of odd numbers are told apart by their bits. -/
theorem hbits_inj {h h' : Int} (a : C2 h) (ao : h.tmod 2 ≠ 0) (b : C2 h') (bo : h'.tmod 2 ≠ 0) (e : hbits h = hbits h') : h = h' := by
  obtain ⟨a0, a1, a2⟩ := odd_bound a ao
  obtain ⟨b0, b1, b2⟩ := odd_bound b bo
  obtain ⟨s1, s2, s3⟩ := sig_bounds h.natAbs (by omega) (by omega)
  obtain ⟨t1, t2, t3⟩ := sig_bounds h'.natAbs (by omega) (by omega)
  obtain ⟨e1, e2, e3⟩ := fbits_inj s1 s2 t1 t2 (by omega) (by omega) e
  have el : h.natAbs.log2 = h'.natAbs.log2 := by omega
  unfold sig at e2
  rw [el, Nat.shiftLeft_eq, Nat.shiftLeft_eq] at e2
  have en := Nat.eq_of_mul_eq_mul_right (Nat.two_pow_pos _) e2
  have ed : (h < 0) = (h' < 0) := by simpa using e1
  by_cases hn : h < 0
  · have : h' < 0 := by rw [← ed]; exact hn
    omega
  · have : ¬ h' < 0 := by rw [← ed]; exact hn
    omega

def J.kind : J → Int
  | .null => 0
  | .bool b => if b then 2 else 1
  | .int _ => 3
  | .flt _ => 3
  | .str _ => 4
  | .list _ => 5
  | .map _ _ => 6
theorem toJ_kind {k h t aL cL l aK cK ks aV cV vs} (hg : (V.mk k h t aL cL l aK cK ks aV cV vs).Good) : (V.mk k h t aL cL l aK cK ks aV cV vs).toJ.kind = k := by
  unfold V.Good at hg
  obtain ⟨⟨h0, h6, _⟩, _⟩ := hg
  have hc : k = 0 ∨ k = 1 ∨ k = 2 ∨ k = 3 ∨ k = 4 ∨ k = 5 ∨ k = 6 := by omega
  by_cases ht : h.tmod 2 = 0 <;> rcases hc with rfl | rfl | rfl | rfl | rfl | rfl | rfl <;> simp [V.toJ, J.kind, ht]

theorem toJAll_get : ∀ (l : List V) (i : Nat), (toJAll l)[i]? = (l[i]?).map V.toJ
  | [], i => by simp [toJAll]
  | x :: r, 0 => by simp [toJAll]
  | x :: r, i + 1 => by simp [toJAll, toJAll_get r i]

theorem sign0 (w : World) : Calls Tryd.prog 36 #[.int .i64 0] w (fun e w' => e = .returned (.int .i64 0) ∧ w' = w) := by
  go_enter Tryd.func36, Tryd.ntmps36
  go_wp2_with fail
  go_ret
  exact ⟨rfl, rfl⟩
theorem texts_same (w : World) (t : ByteArray) : Calls Tryd.prog 37 #[.string t, .string t] w (fun e w' => e = .returned (.int .i64 0) ∧ w' = w) := by
  have e := bl_irrefl t.toList
  go_enter Tryd.func37, Tryd.ntmps37
  go_wp2_with fail
  go_ret
  exact ⟨rfl, rfl⟩

set_option maxRecDepth 100000 in
set_option maxHeartbeats 1000000 in
theorem keys_same (w : World) (B : Nat) (A A' : Option Addr) (c c' : Nat) (ks : List ByteArray) (hr : Reads w B A (ks.map .string)) (hr' : Reads w B A' (ks.map .string)) (hB : B ≤ w.heap.size) (hlen : ks.length ≤ 140737488351232) :
    Calls Tryd.prog 39 #[.slice A ks.length c, .slice A' ks.length c'] w (Same0 w (.int .i64 0)) := by
  obtain ⟨n, hn⟩ : ∃ n, n = ks.length := ⟨_, rfl⟩
  rw [← hn]
  rw [← hn] at hlen
  have HR := Lib.hid hr
  have HR' := Lib.hid hr'
  have HN := Lib.hid hn
  clear hr hr' hn
  go_enter Tryd.func39, Tryd.ntmps39
  go_wp2_with fail
  go_loopw [5] (fun i wr => ∃ (k : Nat), k ≤ n ∧ i = .int .i64 k ∧ Below w.heap.size w wr) (fun i _ => n - (intOf i).toNat)
  case atStart => exact ⟨0, Nat.zero_le _, rfl, Below.refl _ _⟩
  case round =>
    obtain ⟨k, hk, rfl, hbw⟩ := hrel
    by_cases hlt : k < n
    · obtain ⟨s, hs⟩ : ∃ s, ks[k]? = some s := ⟨_, List.getElem?_eq_getElem (by rw [← HN.out]; exact hlt)⟩
      have hm : (ks.map Value.string)[k]? = some (.string s) := by simp [hs]
      have hne : ks.map Value.string ≠ [] := by intro e; rw [e] at hm; simp at hm
      obtain ⟨ad, rfl, hadb, hrow⟩ := HR.out hne
      obtain ⟨ad', rfl, hadb', hrow'⟩ := HR'.out hne
      have d0 : wr.cell? (ad.add k) = some (.string s) := (hbw.cell (by rw [block_of_add]; omega)).trans (hrow k _ hm)
      have d1 : wr.cell? (ad'.add k) = some (.string s) := (hbw.cell (by rw [block_of_add]; omega)).trans (hrow' k _ hm)
      have HBW := Lib.hid hbw
      clear hs hm hne hrow hrow' hbw
      go_wp2_with fail
      refine wp_region_still_tail 8 (by kernel_rfl) (by kernel_rfl) ?_
      simp only [List.take_succ_cons, List.take_zero, List.drop_succ_cons, List.drop_zero]
      iterate 8 (refine still_at (a' := ?_) ?_ ?_; rotate_left; (intro K hK; have HK := Lib.hid hK; clear hK; go_simp; exact HK.out))
      refine wpStill_nil ?_
      go_wp2_with (go_at_call 37; refine (texts_same _ _).mono ?_; rintro e wb ⟨rfl, rfl⟩)
      go_roundw
      case rel => exact ⟨k + 1, by omega, by go_num, HBW.out.drew⟩
      case measure => simp [intOf]; omega
    · have hkn : k = n := by omega
      subst hkn
      go_wp2_with fail
      go_ret
      exact ⟨rfl, hbw⟩

set_option maxRecDepth 100000 in
set_option maxHeartbeats 1000000 in
theorem lists_same (w : World) (B : Nat) (A A' : Option Addr) (c c' : Nat) (l l' : List V) (hr : RowsV w B A l) (hr' : RowsV w B A' l') (hall : AllIn w B l) (hall' : AllIn w B l') (hB : B ≤ w.heap.size) (hl : l.length = l'.length) (hlen : l.length ≤ 140737488351232)
    (hcmp : ∀ (q : Nat) (y y' : V), l[q]? = some y → l'[q]? = some y' → ∀ w', y.In w' B → y'.In w' B → B ≤ w'.heap.size → Calls Tryd.prog 27 #[y.val, y'.val] w' (Same0 w' (.int .i64 0))) :
    Calls Tryd.prog 38 #[.slice A l.length c, .slice A' l'.length c'] w (Same0 w (.int .i64 0)) := by
  obtain ⟨n, hn⟩ : ∃ n, n = l.length := ⟨_, rfl⟩
  rw [← hl, ← hn]
  rw [← hn] at hlen
  have HR := Lib.hid hr
  have HR' := Lib.hid hr'
  have HALL := Lib.hid hall
  have HALL' := Lib.hid hall'
  have HCMP := Lib.hid hcmp
  have HL := Lib.hid hl
  have HN := Lib.hid hn
  clear hr hr' hn hall hall' hcmp hl
  go_enter Tryd.func38, Tryd.ntmps38
  go_wp2_with fail
  go_loopw [5] (fun i wr => ∃ (k : Nat), k ≤ n ∧ i = .int .i64 k ∧ Below w.heap.size w wr) (fun i _ => n - (intOf i).toNat)
  case atStart => exact ⟨0, Nat.zero_le _, rfl, Below.refl _ _⟩
  case round =>
    obtain ⟨k, hk, rfl, hbw⟩ := hrel
    by_cases hlt : k < n
    · obtain ⟨y, hy⟩ : ∃ y, l[k]? = some y := ⟨_, List.getElem?_eq_getElem (by rw [← HN.out]; exact hlt)⟩
      obtain ⟨y', hy'⟩ : ∃ y, l'[k]? = some y := ⟨_, List.getElem?_eq_getElem (by rw [← HL.out, ← HN.out]; exact hlt)⟩
      obtain ⟨ad, rfl, hadb, hrow⟩ := HR.out (by rintro rfl; simp at hy)
      obtain ⟨ad', rfl, hadb', hrow'⟩ := HR'.out (by rintro rfl; simp at hy')
      have hc : ∀ (j : Nat) (u : Value), y.cells[j]? = some u → wr.cell? (ad.add (k * 6 + j)) = some u := fun j u hu => (hbw.cell (by rw [block_of_add]; omega)).trans (hrow k y hy j u hu)
      have hc' : ∀ (j : Nat) (u : Value), y'.cells[j]? = some u → wr.cell? (ad'.add (k * 6 + j)) = some u := fun j u hu => (hbw.cell (by rw [block_of_add]; omega)).trans (hrow' k y' hy' j u hu)
      have hbd : Below w.heap.size w wr.drew := hbw.drew
      have hC := HCMP.out k y y' hy hy' wr.drew ((HALL.out.mem y (List.mem_of_getElem? hy)).below hbd hB) ((HALL'.out.mem y' (List.mem_of_getElem? hy')).below hbd hB) (Nat.le_trans hB hbd.size)
      obtain ⟨yk, yh, yt, yaL, ycL, yl, yaK, ycK, yks, yaV, ycV, yvs⟩ := y
      obtain ⟨zk, zh, zt, zaL, zcL, zl, zaK, zcK, zks, zaV, zcV, zvs⟩ := y'
      rw [V.val_mk, V.val_mk] at hC
      obtain ⟨d0, d1, d2, d3, d4, d5⟩ := six hc
      obtain ⟨e0, e1, e2, e3, e4, e5⟩ := six hc'
      have HC := Lib.hid hC
      have HBW := Lib.hid hbd
      clear hC hc hc' hbw hbd hy hy' hrow hrow'
      go_wp2_with fail
      refine wp_region_still_tail 8 (by kernel_rfl) (by kernel_rfl) ?_
      simp only [List.take_succ_cons, List.take_zero, List.drop_succ_cons, List.drop_zero]
      iterate 8 (refine still_at (a' := ?_) ?_ ?_; rotate_left; (intro K hK; have HK := Lib.hid hK; clear hK; go_simp; exact HK.out))
      refine wpStill_nil ?_
      go_wp2_with (go_at_call 27; refine (HC.out).mono ?_; rintro e wb ⟨rfl, hb⟩)
      go_roundw
      case rel => exact ⟨k + 1, by omega, by go_num, HBW.out.trans (hb.mono HBW.out.size)⟩
      case measure => simp [intOf]; omega
    · have hkn : k = n := by omega
      subst hkn
      go_wp2_with fail
      go_ret
      exact ⟨rfl, hbw⟩

theorem toJAll_eq {l l' : List V} (h : toJAll l = toJAll l') : l.length = l'.length ∧ ∀ (q : Nat) (y y' : V), l[q]? = some y → l'[q]? = some y' → y.toJ = y'.toJ := by
  refine ⟨by rw [← toJAll_length l, h, toJAll_length], fun q y y' h1 h2 => ?_⟩
  have e := congrArg (fun z => z[q]?) h
  simp only [toJAll_get, h1, h2, Option.map_some, Option.some.injEq] at e
  exact e

set_option maxRecDepth 100000 in
set_option maxHeartbeats 1000000 in
/-- Cmp of two right values that stand for one JSON value. -/
theorem cmp_same (n : Nat) : ∀ (x y : V) (w : World) (B : Nat), x.deep ≤ n → x.In w B → y.In w B → B ≤ w.heap.size → x.Good → y.Good → x.toJ = y.toJ →
    Calls Tryd.prog 27 #[x.val, y.val] w (Same0 w (.int .i64 0)) := by
  induction n with
  | zero =>
    intro x _ _ _ hd
    cases x; simp [V.deep] at hd
  | succ n ih =>
    intro x y w B hd hx hy hB hgx hgy hj
    obtain ⟨k, h, t, aL, cL, l, aK, cK, ks, aV, cV, vs⟩ := x
    obtain ⟨k', h', t', aL', cL', l', aK', cK', ks', aV', cV', vs'⟩ := y
    have hk := congrArg J.kind hj
    rw [toJ_kind hgx, toJ_kind hgy] at hk
    subst hk
    unfold V.In at hx hy
    obtain ⟨hox, hxl, hxk, hxv, hal, hav⟩ := hx
    obtain ⟨hoy, hyl, hyk, hyv, hbl, hbv⟩ := hy
    unfold V.Good at hgx hgy
    obtain ⟨c1, c2, c3, c4, c5, c6⟩ := hgx
    obtain ⟨b1, b2, b3, b4, b5, b6⟩ := hgy
    have hsz : l.length ≤ 140737488351232 ∧ ks.length ≤ 140737488351232 ∧ vs.length ≤ 140737488351232 := by unfold V.Own at hox; omega
    have hcL : ∀ (q : Nat) (y y' : V), l[q]? = some y → l'[q]? = some y' → y.toJ = y'.toJ → ∀ w', y.In w' B → y'.In w' B → B ≤ w'.heap.size → Calls Tryd.prog 27 #[y.val, y'.val] w' (Same0 w' (.int .i64 0)) :=
      fun q y y' h1 h2 he w' h3 h4 h5 => ih y y' w' B (by have := deep_list (k := k) (h := h) (t := t) (aL := aL) (cL := cL) (l := l) (aK := aK) (cK := cK) (ks := ks) (aV := aV) (cV := cV) (vs := vs) (List.mem_of_getElem? h1); omega) h3 h4 h5 (goodAll_mem c5 _ (List.mem_of_getElem? h1)) (goodAll_mem b5 _ (List.mem_of_getElem? h2)) he
    have hcV : ∀ (q : Nat) (y y' : V), vs[q]? = some y → vs'[q]? = some y' → y.toJ = y'.toJ → ∀ w', y.In w' B → y'.In w' B → B ≤ w'.heap.size → Calls Tryd.prog 27 #[y.val, y'.val] w' (Same0 w' (.int .i64 0)) :=
      fun q y y' h1 h2 he w' h3 h4 h5 => ih y y' w' B (by have := deep_vals (k := k) (h := h) (t := t) (aL := aL) (cL := cL) (l := l) (aK := aK) (cK := cK) (ks := ks) (aV := aV) (cV := cV) (vs := vs) (List.mem_of_getElem? h1); omega) h3 h4 h5 (goodAll_mem c6 _ (List.mem_of_getElem? h1)) (goodAll_mem b6 _ (List.mem_of_getElem? h2)) he
    have HB2 := Lib.hid (below2 w)
    rw [V.val_mk, V.val_mk]
    have hc : (0 ≤ k ∧ k ≤ 2) ∨ k = 3 ∨ k = 4 ∨ k = 5 ∨ k = 6 := by have := c1.1; have := c1.2.1; omega
    rcases hc with hc | rfl | rfl | rfl | rfl
    · exact cmp_plain w k hc.1 hc.2 h h' t t' _ _ _ _ _ _
    · have he : h = h' := by
        by_cases h1 : h.tmod 2 = 0 <;> by_cases h2 : h'.tmod 2 = 0 <;> simp [V.toJ, h1, h2] at hj
        · have := Int.mul_tdiv_add_tmod h 2; have := Int.mul_tdiv_add_tmod h' 2; omega
        · exact hbits_inj c2 h1 b2 h2 hj
      subst he
      have e0 : IntKind.i64.wrap (h - h) = 0 := by rw [Int.sub_self]; rfl
      clear hj c1 c2 c3 c4 c5 c6 b1 b2 b3 b4 b5 b6 hcL hcV hox hoy hxl hxk hxv hal hav hyl hyk hyv hbl hbv ih
      go_enter Tryd.func27, Tryd.ntmps27
      go_wp2_with (go_at_call 36; refine (sign0 _).mono ?_; rintro e wb ⟨rfl, rfl⟩)
      go_ret
      exact ⟨rfl, HB2.out _ _⟩
    · have he : t = t' := by simpa [V.toJ] using hj
      subst he
      clear hj c1 c2 c3 c4 c5 c6 b1 b2 b3 b4 b5 b6 hcL hcV hox hoy hxl hxk hxv hal hav hyl hyk hyv hbl hbv ih
      go_enter Tryd.func27, Tryd.ntmps27
      go_wp2_with (go_at_call 37; refine (texts_same _ _).mono ?_; rintro e wb ⟨rfl, rfl⟩)
      go_ret
      exact ⟨rfl, HB2.out _ _⟩
    · obtain ⟨hl, hq⟩ := toJAll_eq (l := l) (l' := l') (by simpa [V.toJ] using hj)
      have hlists : ∀ w', Below w.heap.size w w' → Calls Tryd.prog 38 #[.slice aL l.length cL, .slice aL' l'.length cL'] w' (Same0 w' (.int .i64 0)) := fun w' hb =>
        lists_same w' B aL aL' cL cL' l l' (hxl.keep fun p hp => hb.cell (by omega)) (hyl.keep fun p hp => hb.cell (by omega)) (AllIn.keep (fun p hp => hb.cell (by omega)) hal) (AllIn.keep (fun p hp => hb.cell (by omega)) hbl) (Nat.le_trans hB hb.size) hl hsz.1
          (fun q y y' h1 h2 => hcL q y y' h1 h2 (hq q y y' h1 h2))
      have HL := Lib.hid hlists
      clear hj c1 c2 c3 c4 c5 c6 b1 b2 b3 b4 b5 b6 hcL hcV hox hoy hxl hxk hxv hal hav hyl hyk hyv hbl hbv ih hlists hl hq
      generalize l.length = n1 at *
      generalize l'.length = n1' at *
      go_enter Tryd.func27, Tryd.ntmps27
      go_wp2_with (first | (go_at_call 38; refine (HL.out _ (HB2.out _ _)).mono ?_; rintro e wb ⟨rfl, hb⟩) | (go_at_call 36; refine (sign0 _).mono ?_; rintro e wb ⟨rfl, rfl⟩))
      go_ret
      exact ⟨rfl, (HB2.out _ _).trans (hb.mono (by simp; omega))⟩
    · have hj2 : ks = ks' ∧ toJAll vs = toJAll vs' := by simpa [V.toJ] using hj
      obtain ⟨hks, hj3⟩ := hj2
      subst hks
      obtain ⟨hl, hq⟩ := toJAll_eq hj3
      have hkeys : ∀ w', Below w.heap.size w w' → Calls Tryd.prog 39 #[.slice aK ks.length cK, .slice aK' ks.length cK'] w' (Same0 w' (.int .i64 0)) := fun w' hb =>
        keys_same w' B aK aK' cK cK' ks (hxk.keep fun p hp => hb.cell (by omega)) (hyk.keep fun p hp => hb.cell (by omega)) (Nat.le_trans hB hb.size) hsz.2.1
      have hlists : ∀ w', Below w.heap.size w w' → Calls Tryd.prog 38 #[.slice aV vs.length cV, .slice aV' vs'.length cV'] w' (Same0 w' (.int .i64 0)) := fun w' hb =>
        lists_same w' B aV aV' cV cV' vs vs' (hxv.keep fun p hp => hb.cell (by omega)) (hyv.keep fun p hp => hb.cell (by omega)) (AllIn.keep (fun p hp => hb.cell (by omega)) hav) (AllIn.keep (fun p hp => hb.cell (by omega)) hbv) (Nat.le_trans hB hb.size) hl hsz.2.2
          (fun q y y' h1 h2 => hcV q y y' h1 h2 (hq q y y' h1 h2))
      have HK := Lib.hid hkeys
      have HL := Lib.hid hlists
      clear hj hj3 c1 c2 c3 c4 c5 c6 b1 b2 b3 b4 b5 b6 hcL hcV hox hoy hxl hxk hxv hal hav hyl hyk hyv hbl hbv ih hlists hl hq hkeys hsz
      generalize ks.length = n2 at *
      generalize vs.length = n1 at *
      generalize vs'.length = n1' at *
      generalize l.length = n3 at *
      generalize l'.length = n3' at *
      go_enter Tryd.func27, Tryd.ntmps27
      go_wp2_with (first | (go_at_call 39; refine (HK.out _ (HB2.out _ _)).mono ?_; rintro e wa ⟨rfl, ha⟩; have HA := Lib.hid ((HB2.out _ _).trans (ha.mono (by simp; omega))); have ga := fun j (hj : j < 6) => ha.cell (p := ⟨w.heap.size, j, none⟩) (by simp; omega); have gb := fun j (hj : j < 6) => ha.cell (p := ⟨w.heap.size + 1, j, none⟩) (by simp)) | (go_at_call 38; refine (HL.out _ HA.out).mono ?_; rintro e wb ⟨rfl, hb⟩) | (go_at_call 36; refine (sign0 _).mono ?_; rintro e wb ⟨rfl, rfl⟩))
      go_ret
      exact ⟨rfl, HA.out.trans (hb.mono HA.out.size)⟩
end Go.Proofs.YtpigccnlembfdaaDoor
