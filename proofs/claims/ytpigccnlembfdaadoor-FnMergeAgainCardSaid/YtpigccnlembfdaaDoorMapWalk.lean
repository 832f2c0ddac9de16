/- The walk of impl.mapFromGo: a map that is represented comes back as a right tree. Conditions: as the theorem states. -/
import Derived.Test.YtpigccnlembfdaaDoorFromMap
import Derived.Test.YtpigccnlembfdaaDoorStage
namespace Go.Proofs.YtpigccnlembfdaaDoor
open Go.RowKit Go.Maps

theorem zero_if (W : World) : (zeroValue 20).run Tryd.prog W = .ok .nilIface W := by kernel_rfl
theorem reads_of_own {w : World} {base k : Nat} {T : TypeId} {xs : List Value} {A : Option Addr} {c : Nat} (h : w.ownsRow base T 1 (.slice A k c) k xs) : Reads w w.heap.size A xs := fun hn => by
  rcases h.2 with ⟨hv, hk⟩ | ⟨g, cap, cur, hv, hb, hg, r⟩
  · subst hk
    have h1 := h.1
    exact absurd (List.length_eq_zero_iff.1 (by simpa using h1)) hn
  · cases hv
    exact ⟨⟨g, 0, none⟩, rfl, (Array.getElem?_eq_some_iff.1 hg).1, fun j u hu => h.cells rfl _ _ hu⟩
theorem info_str : (Tryd.prog.info? 9).map (fun i => (i.zero, i.size, i.bytes)) = some (some (.string ⟨#[]⟩), 1, 16) := by kernel_rfl

set_option maxRecDepth 100000 in
set_option maxHeartbeats 4000000 in
theorem mapFrom_any (w : World) (b : Nat) (m : ByteArray → Option Value) (ks : List ByteArray) (vs : List J) (us : List Value) (hm : MapIs w b ks.length m) (hl : ks.length = vs.length) (hr : Rising ks) (hsz : ∀ s ∈ ks, s.size ≤ 140737488351232)
    (hmu : ∀ (s : ByteArray) (v : Value), m s = some v ↔ ∃ i : Nat, ks[i]? = some s ∧ us[i]? = some v) (hus : us.length = vs.length) (hval : ∀ s ∈ ks, Lib.validD s.data.toList = true) (hlen : ks.length ≤ 1000000)
    (hfrom : ∀ (i : Nat) (j : J) (u : Value), vs[i]? = some j → us[i]? = some u → ∀ w', Below w.heap.size w w' → Calls Tryd.prog 25 #[u] w' (FromPost j w')) :
    Calls Tryd.prog 34 #[.map (some b)] w (FromPost (.map ks vs) w) := by
  obtain ⟨D, hown, hszD, hmD⟩ := hm.own Tryd.underlying9 (by unfold maxLen; omega)
  have hmem : ∀ s, (∃ v, mapOf D s = some v) ↔ s ∈ ks := fun s => by
    rw [hmD]
    constructor
    · rintro ⟨v, hv⟩
      obtain ⟨i, hi, _⟩ := (hmu s v).1 hv
      exact List.mem_of_getElem? hi
    · intro hs
      obtain ⟨i, hi, e⟩ := List.getElem_of_mem hs
      have h1 : ks[i]? = some s := by rw [List.getElem?_eq_getElem hi, e]
      exact ⟨us[i]'(by omega), (hmu s _).2 ⟨i, h1, List.getElem?_eq_getElem (by omega)⟩⟩
  obtain ⟨n, hn⟩ : ∃ n, ks.length = n := ⟨_, rfl⟩
  have HSRT := Lib.hid (fun W N (ho : World.ownsMap W Tryd.prog 9 heldR b ks.length D) hN => sortedKeys_any W N b ks.length D ho hN (by omega) hr hmem n hn)
  have HKEY := Lib.hid (fun W => callsIn_wide.1 (Tryd.maps_Keys_44 (some b) W))
  have HOWN := Lib.hid hown
  have HM := Lib.hid hm
  have HMU := Lib.hid hmu
  have HFR := Lib.hid hfrom
  have HVAL := Lib.hid hval
  have HSZ := Lib.hid hsz
  have HR := Lib.hid hr
  have HN := Lib.hid hn
  have HL := Lib.hid (And.intro hl hus)
  have hlen' : n ≤ 1000000 := by omega
  obtain ⟨i0, hi, he0⟩ := Option.map_eq_some_iff.1 info_val
  have hz0 : i0.zero = some (.agg #[.int .i64 0, .int .i64 0, .string ⟨#[]⟩, .slice none 0 0, .slice none 0 0, .slice none 0 0]) := congrArg (·.1) he0
  have hz1 : i0.size = 6 := congrArg (·.2.1) he0
  have hz2 : i0.bytes = 104 := congrArg (·.2.2) he0
  have HI := Lib.hid (And.intro hi (And.intro hz0 (And.intro hz1 hz2)))
  obtain ⟨i9, hi9, he9⟩ := Option.map_eq_some_iff.1 info_str
  have hy0 : i9.zero = some (.string ⟨#[]⟩) := congrArg (·.1) he9
  have hy1 : i9.size = 1 := congrArg (·.2.1) he9
  have hy2 : i9.bytes = 16 := congrArg (·.2.2) he9
  have HI9 := Lib.hid (And.intro hi9 (And.intro hy0 (And.intro hy1 hy2)))
  have hC0 := Cells.new w 26 (six3 0 nils nils nils)
  have hC1 := Cells.new (w.alloc (.cells (six3 0 nils nils nils) 26)) 26 (six6 nils nils)
  rw [World.size_alloc] at hC1
  have HC0 := Lib.hid (And.intro hC0 hC1)
  have hbl := hm.lt
  clear hfrom hn hus hi he0 hz0 hz1 hz2 hi9 he9 hy0 hy1 hy2 hval hsz hr hl hmem hmD hszD hown hm hmu hlen hC0 hC1
  go_enter Tryd.func34, Tryd.ntmps34
  go_wp2_with (first
    | (go_at_call 44; refine (HKEY.out _).mono ?_; rintro e w' ⟨rfl, rfl⟩)
    | (go_at_call 43; refine (HSRT.out _ _ ((HOWN.out.alloc _).alloc _) (by simp)).mono ?_; rintro e w3 ⟨A', c', rfl, hc', hb3, hrow⟩; have HB3 := Lib.hid hb3; have HROW := Lib.hid hrow; clear hb3 hrow))
  have hs3 : w.heap.size + 3 ≤ w3.heap.size := by have := HB3.out.size; simp at this; omega
  have hbw3 : Below w.heap.size w w3 := by
    have h1 := below2 w (.cells (six3 0 nils nils nils) 26) (.cells (six6 nils nils) 26)
    exact (h1.alloc (by simp; omega) _).trans (HB3.out.mono (by omega))
  have hR3 : Cells w3 w.heap.size 26 (six3 0 nils nils nils) := (HB3.out.block _ (by omega)).trans ((Below.heap_alloc _ _ _ (by simp; omega)).trans ((Below.heap_alloc _ _ _ (by simp)).trans HC0.out.1))
  have hO3 : Cells w3 (w.heap.size + 1) 26 (six6 nils nils) := (HB3.out.block _ (by omega)).trans ((Below.heap_alloc _ _ _ (by simp)).trans HC0.out.2)
  have HBW3 := Lib.hid hbw3
  have HR3 := Lib.hid hR3
  have HO3 := Lib.hid hO3
  clear hbw3 hR3 hO3 HB3 HC0 HSRT HKEY HOWN
  go_loopw [14] (fun i wr => ∃ (k : Nat) (L : List V) (sk sv : Value), k ≤ n ∧ i = .int .i64 k ∧ MF w w3 wr ks vs k L sk sv) (fun i _ => n - (intOf i).toNat)
  case atStart =>
    refine ⟨0, [], nils, nils, Nat.zero_le _, rfl, World.grownBy.refl _ _, HO3.out, World.ownsRow_nil _ _ _ _, World.ownsRow_nil _ _ _ _, fun b h => by simp [nils, Value.ownBlock] at h, rfl, by simp [toJAll], by unfold GoodAll; trivial, by simp [partsAll, jpartsAll], by unfold AllIn; trivial, by unfold BlocksAll; trivial⟩
  case round =>
    obtain ⟨k, L, sk, sv, hk, rfl, hF⟩ := hrel
    have hbwr : Below w.heap.size w wr := HBW3.out.grown hF.grow (by omega) (fun k hk => by cases hk; omega)
    by_cases hlt : k < n
    · obtain ⟨s, hs⟩ : ∃ s, ks[k]? = some s := ⟨_, List.getElem?_eq_getElem (by rw [HN.out]; exact hlt)⟩
      obtain ⟨j, hj⟩ : ∃ j, vs[k]? = some j := ⟨_, List.getElem?_eq_getElem (by rw [← HL.out.1, HN.out]; exact hlt)⟩
      obtain ⟨u, hu⟩ : ∃ u, us[k]? = some u := ⟨_, List.getElem?_eq_getElem (by rw [HL.out.2, ← HL.out.1, HN.out]; exact hlt)⟩
      obtain ⟨ad, rfl, hadb, hadb2, hrow⟩ := HROW.out (by rintro rfl; simp at hs)
      have d0 : wr.cell? (ad.add k) = some (.string s) := (World.cell?_of_block (hF.grow.block _ (by rw [block_of_add]; exact hadb2) (by rw [block_of_add]; intro e; injection e; omega))).trans (hrow k s hs)
      have hms : m s = some u := (HMU.out s u).2 ⟨k, hs, hu⟩
      have hlook := (HM.out.of_block (hbwr.block b hbl)).look Tryd.underlying42 Tryd.underlying9 (zero_if wr) false (Nat.le_trans (HSZ.out s (List.mem_of_getElem? hs)) (by unfold maxLen; decide))
      rw [hms] at hlook
      simp only [Bool.false_eq_true, if_false, Option.getD_some] at hlook
      have HC := Lib.hid (HFR.out k j u hj hu wr hbwr)
      have HF := Lib.hid hF
      have HJ := Lib.hid (And.intro hs hj)
      obtain ⟨hi, hz0, hz1, hz2⟩ := HI.out
      obtain ⟨hi9, hy0, hy1, hy2⟩ := HI9.out
      have HBWR := Lib.hid hbwr
      clear hF hrow hj hu hs hms hbwr
      go_wp2_with fail
      refine HC.out.mono ?_
      rintro e w2 ⟨X, rfl, hb2, hin2, hbl2, hj2, hg2, hp2⟩
      have hO := HF.out.out.below hb2
      have c4 := hO.cell 4
      have c5 := hO.cell 5
      simp [six6] at c4 c5
      have hOL := hO.lt
      have HX := Lib.hid (And.intro hin2 (And.intro hbl2 (And.intro hj2 (And.intro hg2 hp2))))
      have hone := cells_one X
      obtain ⟨xk, xh, xt, xaL, xcL, xl, xaK, xcK, xks, xaV, xcV, xvs⟩ := X
      rw [V.val_mk]
      simp only [V.cells] at hone
      have HONE := Lib.hid hone
      have HB2 := Lib.hid hb2
      clear hin2 hbl2 hj2 hg2 hp2 hO hone hb2
      generalize hxl : xl.length = ml at *
      generalize hxk : xks.length = mk at *
      generalize hxv : xvs.length = mv at *
      have HXL := Lib.hid (And.intro hxl (And.intro hxk hxv))
      clear hxl hxk hxv
      go_wp2_with fail
      have holK := HF.out.ownK.lt
      have holV := HF.out.ownV.lt
      have hs2 := HB2.out.size
      have hgs3 := HF.out.grow.size
      have HKO := Lib.hid (fun W (h : Two w2 W none none) => (HF.out.ownK.kept (grown_below HB2.out none) (by cases sk.ownBlock <;> simp)).kept h.one (by cases sk.ownBlock <;> simp))
      have HVO := Lib.hid (fun W (h : Two w2 W sk.ownBlock none) => (HF.out.ownV.kept (grown_below HB2.out none) (by cases sv.ownBlock <;> simp)).kept h.one (by
        cases e : sv.ownBlock with
        | none => exact Or.inl rfl
        | some q => exact Or.inr (fun e2 => HF.out.apart q e2.symm e)))
      have HOUT := Lib.hid (fun W (h : Two w2 W sk.ownBlock sv.ownBlock) => (show Cells W (w.heap.size + 1) 26 (six6 sk sv) from (h.block _ hOL (fun e => by have := holK _ e.symm; omega) (fun e => by have := holV _ e.symm; omega)).trans (HF.out.out.below HB2.out)))
      have hN0 : (w2.alloc (.cells #[.int .i64 xk, .int .i64 xh, .string xt, .slice xaL ml xcL, .slice xaK mk xcK, .slice xaV mv xcV] 26)).heap.size = w2.heap.size + 1 := by simp
      have HT0 := Lib.hid (fun r s => (Two.refl w2 r s).alloc (.cells #[.int .i64 xk, .int .i64 xh, .string xt, .slice xaL ml xcL, .slice xaK mk xcK, .slice xaV mv xcV] 26))
      have hnew := Cells.new w2 26 #[.int .i64 xk, .int .i64 xh, .string xt, .slice xaL ml xcL, .slice xaK mk xcK, .slice xaV mv xcV]
      have HBOX := Lib.hid (fun W (h : Two (w2.alloc (.cells #[.int .i64 xk, .int .i64 xh, .string xt, .slice xaL ml xcL, .slice xaK mk xcK, .slice xaV mv xcV] 26)) W sk.ownBlock sv.ownBlock) => (show Cells W w2.heap.size 26 #[.int .i64 xk, .int .i64 xh, .string xt, .slice xaL ml xcL, .slice xaK mk xcK, .slice xaV mv xcV] from (h.block _ (by simp) (fun e => by have := holK _ e.symm; omega) (fun e => by have := holV _ e.symm; omega)).trans hnew))
      generalize w2.alloc (.cells #[.int .i64 xk, .int .i64 xh, .string xt, .slice xaL ml xcL, .slice xaK mk xcK, .slice xaV mv xcV] 26) = W0 at *
      have hOL0 : w.heap.size + 1 < W0.heap.size := by omega
      have hOL1 : w.heap.size < W0.heap.size := by omega
      have hBL0 : w2.heap.size < W0.heap.size := by omega
      have hBL1 : w2.heap.size < W0.heap.size + 1 := by omega
      have hW3 : w3.heap.size ≤ W0.heap.size := by omega
      clear hN0
      have hO0 := HOUT.out W0 (HT0.out _ _)
      have a4 := hO0.cell 4
      have a5 := hO0.cell 5
      simp [six6] at a4 a5
      have b0 := hnew.cell 0
      have b1 := hnew.cell 1
      have b2 := hnew.cell 2
      have b3 := hnew.cell 3
      have b4 := hnew.cell 4
      have b5 := hnew.cell 5
      simp at b0 b1 b2 b3 b4 b5
      clear hnew hO0 c4 c5
      have hR0 : Cells W0.drew w2.heap.size 26 #[.int .i64 xk, .int .i64 xh, .string xt, .slice xaL ml xcL, .slice xaK mk xcK, .slice xaV mv xcV] := HBOX.out _ (Two.refl _ _ _).drew
      have hS0 : Cells W0.drew (w.heap.size + 1) 26 (six6 sk sv) := HOUT.out _ (HT0.out _ _).drew
      refine wp_region_S (Sf := Till 11 (fun W => Cells W w2.heap.size 26 #[.int .i64 xk, .int .i64 xh, .string xt, .slice xaL ml xcL, .slice xaK mk xcK, .slice xaV mv xcV]) (fun W => Cells W (w.heap.size + 1) 26 (six6 sk sv))) (by kernel_rfl) ?_
      refine till_take_R (i := 0) 28 (.pointer (some ⟨w.heap.size + 1, 4, none⟩)) rfl rfl (by kernel_rfl) (by kernel_rfl) (by kernel_rfl) (by decide) (fun _ _ _ h => h) (Or.inl ⟨by rfl, ?_⟩) ⟨hR0, fun _ => hS0⟩ ?_
      · intro W hW; go_simp
      simp only [Act.put, List.setIfInBounds_toArray, List.set_cons_zero, List.set_cons_succ]
      refine till_take_S (i := 1) 29 (sk) rfl rfl (by kernel_rfl) (by kernel_rfl) (by kernel_rfl) (by decide) (by kernel_rfl) (by kernel_rfl) (fun _ _ _ h => h) (Or.inl ⟨by rfl, ?_⟩) ⟨hR0, fun _ => hS0⟩ ?_
      · intro W hW; (have h4 := Cells.cell (show Cells W (w.heap.size + 1) 26 (six6 sk sv) from hW) 4; simp [six6] at h4; go_simp)
      simp only [Act.put, List.setIfInBounds_toArray, List.set_cons_zero, List.set_cons_succ]
      refine till_take_R (i := 2) 30 (.string s) rfl rfl (by kernel_rfl) (by kernel_rfl) (by kernel_rfl) (by decide) (fun _ _ _ h => h) (Or.inl ⟨by rfl, ?_⟩) ⟨hR0, fun _ => hS0⟩ ?_
      · intro W hW; go_simp
      simp only [Act.put, List.setIfInBounds_toArray, List.set_cons_zero, List.set_cons_succ]
      refine till_take_R (i := 5) 33 (.pointer (some ⟨w.heap.size + 1, 5, none⟩)) rfl rfl (by kernel_rfl) (by kernel_rfl) (by kernel_rfl) (by decide) (fun _ _ _ h => h) (Or.inl ⟨by rfl, ?_⟩) ⟨hR0, fun _ => hS0⟩ ?_
      · intro W hW; go_simp
      simp only [Act.put, List.setIfInBounds_toArray, List.set_cons_zero, List.set_cons_succ]
      refine till_take_S (i := 6) 34 (sv) rfl rfl (by kernel_rfl) (by kernel_rfl) (by kernel_rfl) (by decide) (by kernel_rfl) (by kernel_rfl) (fun _ _ _ h => h) (Or.inl ⟨by rfl, ?_⟩) ⟨hR0, fun _ => hS0⟩ ?_
      · intro W hW; (have h5 := Cells.cell (show Cells W (w.heap.size + 1) 26 (six6 sk sv) from hW) 5; simp [six6] at h5; go_simp)
      simp only [Act.put, List.setIfInBounds_toArray, List.set_cons_zero, List.set_cons_succ]
      refine till_take_R (i := 7) 35 (.agg #[.int .i64 xk, .int .i64 xh, .string xt, .slice xaL ml xcL, .slice xaK mk xcK, .slice xaV mv xcV]) rfl rfl (by kernel_rfl) (by kernel_rfl) (by kernel_rfl) (by decide) (fun _ _ _ h => h) (Or.inl ⟨by rfl, ?_⟩) ⟨hR0, fun _ => hS0⟩ ?_
      · intro W hW; (have hb : Cells W w2.heap.size 26 #[.int .i64 xk, .int .i64 xh, .string xt, .slice xaL ml xcL, .slice xaK mk xcK, .slice xaV mv xcV] := hW; have h0 := hb.cell 0; have h1 := hb.cell 1; have h2 := hb.cell 2; have h3 := hb.cell 3; have h4 := hb.cell 4; have h5 := hb.cell 5; simp at h0 h1 h2 h3 h4 h5; go_simp)
      simp only [Act.put, List.setIfInBounds_toArray, List.set_cons_zero, List.set_cons_succ]
      refine anyS_ready (rs := [3, 8]) (by kernel_rfl) (by simp) ?_
      refine AllS.cons rfl (fun K hK => ?_) ?_
      · go_simp
        refine hK.out _ _ ⟨HBOX.out _ (((Two.refl W0 _ _).alloc _).drew), fun _ => HOUT.out _ (((HT0.out _ _).alloc _).drew)⟩ ?_
        clear hK K
        refine anyS_ready (rs := [4, 8]) (by kernel_rfl) (by simp) ?_
        refine AllS.cons rfl (fun K hK => ?_) ?_
        · (refine step_append_lies _ (by rfl) _ _ 24 (by rfl) w3.heap.size 9 i9 (.string ⟨#[]⟩) 1 16 Tryd.underlying24 hi9 hy0 hy1 hy2 rfl (by decide) sk k ((ks.take k).map .string) (by rfl) (HKO.out _ (((HT0.out _ _).alloc _).drew)) ⟨_, 0, none⟩ 1 1 [.string s] (by rfl) rfl (World.news_of_block (cs := #[.string s]) (drew_at (new_at _ _ _ rfl))) (by simp [Value.oneCell']) (by decide) (by unfold maxLen; omega) (by omega) (by first | omega | (simp; done) | (simp; omega)) _ rfl ?_; intro gK capK wK hownK hgK hatK hltK; have HGK := Lib.hid hgK; have hatK2 : sk.ownBlock = some gK ∨ w2.heap.size ≤ gK := hatK.imp_right (fun e => (by rw [e]; first | omega | (simp; done) | (simp; omega))); have HWK := Lib.hid (And.intro hownK (And.intro hatK2 hltK)); have hlK := hgK.size; simp at hlK; have hOLK : w.heap.size + 1 < wK.heap.size := (by omega); have hBLK : w2.heap.size < wK.heap.size := (by omega); clear hownK hgK hatK hatK2 hltK)
          change K (Act.put _ (some 32) _) _
          refine hK.out _ _ ⟨HBOX.out _ ((((Two.refl W0 _ _).alloc _).drew.left HGK.out)), fun _ => HOUT.out _ ((((HT0.out _ _).alloc _).drew.left HGK.out))⟩ ?_
          clear hK K
          simp only [Act.put, List.setIfInBounds_toArray, List.set_cons_zero, List.set_cons_succ]
          refine till_take_R (i := 10) 38 (.pointer (some ⟨w.heap.size + 1, 4, none⟩)) rfl rfl (by kernel_rfl) (by kernel_rfl) (by kernel_rfl) (by decide) (fun _ _ _ h => h) (Or.inl ⟨by rfl, ?_⟩) ⟨HBOX.out _ ((((Two.refl W0 _ _).alloc _).drew.left HGK.out)), fun _ => HOUT.out _ ((((HT0.out _ _).alloc _).drew.left HGK.out))⟩ ?_
          · intro W hW; go_simp
          simp only [Act.put, List.setIfInBounds_toArray, List.set_cons_zero, List.set_cons_succ]
          refine anyS_ready (rs := [8]) (by kernel_rfl) (by simp) ?_
          refine AllS.cons rfl (fun K hK => ?_) ?_
          · go_simp
            refine hK.out _ _ ⟨HBOX.out _ (((((Two.refl W0 _ _).alloc _).drew.left HGK.out).alloc _)), fun _ => HOUT.out _ (((((HT0.out _ _).alloc _).drew.left HGK.out).alloc _))⟩ ?_
            clear hK K
            refine anyS_ready (rs := [9]) (by kernel_rfl) (by simp) ?_
            refine AllS.cons rfl (fun K hK => ?_) ?_
            · (refine step_append_lies _ (by rfl) _ _ 23 (by rfl) w3.heap.size 26 i0 (.agg #[.int .i64 0, .int .i64 0, .string ⟨#[]⟩, .slice none 0 0, .slice none 0 0, .slice none 0 0]) 6 104 Tryd.underlying23 hi hz0 hz1 hz2 rfl (by decide) sv k (L.flatMap V.cells) (by rfl) (HVO.out _ (((((HT0.out _ _).alloc _).drew.left HGK.out).alloc _))) ⟨_, 0, none⟩ 1 1 [.int .i64 xk, .int .i64 xh, .string xt, .slice xaL ml xcL, .slice xaK mk xcK, .slice xaV mv xcV] (by rfl) rfl (World.news_of_block (cs := #[.int .i64 xk, .int .i64 xh, .string xt, .slice xaL ml xcL, .slice xaK mk xcK, .slice xaV mv xcV]) (new_at _ _ _ rfl)) HONE.out (by decide) (by unfold maxLen; omega) (by omega) (by first | omega | (simp; done) | (simp; omega)) _ rfl ?_; intro gV capV wV hownV hgV hatV hltV; have HGV := Lib.hid hgV; have hatV2 : sv.ownBlock = some gV ∨ wK.heap.size ≤ gV := hatV.imp_right (fun e => (by rw [e]; first | omega | (simp; done) | (simp; omega))); have HS := Lib.hid (MF.close (X := .mk xk xh xt xaL xcL xl xaK xcK xks xaV xcV xvs) HF.out HJ.out.1 HJ.out.2 (by omega) HB2.out HX.out.1 HX.out.2.1 HX.out.2.2.1 HX.out.2.2.2.1 HX.out.2.2.2.2 (((HT0.out _ _).alloc _).drew) HGK.out HWK.out.1 HWK.out.2.1 HWK.out.2.2 ((Two.refl wK _ _).alloc _) hgV (by simp only [V.cells, HXL.out.1, HXL.out.2.1, HXL.out.2.2]; exact hownV) hatV2); have hOV := HOUT.out wV ((((((HT0.out _ _).alloc _).drew.left HGK.out).alloc _).right HGV.out)); have v4 := hOV.cell 4; have v5 := hOV.cell 5; have q4 := hOV.frozen 4; have q5 := hOV.frozen 5; simp [six6] at v4 v5; have hlV := hgV.size; (try simp at hlV); have hOLV : w.heap.size + 1 < wV.heap.size := (by omega); clear hownV hgV hatV hatV2 hltV hOV)
              change K (Act.put _ (some 37) _) _
              refine hK.out _ _ ⟨HBOX.out _ ((((((Two.refl W0 _ _).alloc _).drew.left HGK.out).alloc _).right HGV.out)), fun _ => HOUT.out _ ((((((HT0.out _ _).alloc _).drew.left HGK.out).alloc _).right HGV.out))⟩ ?_
              clear hK K
              simp only [Act.put, List.setIfInBounds_toArray, List.set_cons_zero, List.set_cons_succ]
              refine anyS_ready (rs := [11]) (by kernel_rfl) (by simp) ?_
              refine AllS.cons rfl (fun K hK => ?_) ?_
              · go_simp
                refine hK.out _ _ ⟨((HBOX.out wV ((((((Two.refl W0 _ _).alloc _).drew.left HGK.out).alloc _).right HGV.out))).keep (grown_set _ _ _ _) (fun e => by have := Option.some.inj e; omega)), fun h => by have h2 : (true : Bool) = false := h; cases h2⟩ ?_
                clear hK K
                refine till_take_R (i := 12) 39 (.pointer (some ⟨w.heap.size + 1, 5, none⟩)) rfl rfl (by kernel_rfl) (by kernel_rfl) (by kernel_rfl) (by decide) (fun _ _ _ h => h) (Or.inl ⟨by rfl, ?_⟩) ⟨((HBOX.out wV ((((((Two.refl W0 _ _).alloc _).drew.left HGK.out).alloc _).right HGV.out))).keep (grown_set _ _ _ _) (fun e => by have := Option.some.inj e; omega)), fun h => by have h2 : (true : Bool) = false := h; cases h2⟩ ?_
                · intro W hW; go_simp
                simp only [Act.put, List.setIfInBounds_toArray, List.set_cons_zero, List.set_cons_succ]
                refine anyS_ready (rs := [13]) (by kernel_rfl) (by simp) ?_
                refine AllS.cons rfl (fun K hK => ?_) ?_
                · go_simp
                  refine hK.out _ _ ⟨(((HBOX.out wV ((((((Two.refl W0 _ _).alloc _).drew.left HGK.out).alloc _).right HGV.out))).keep (grown_set _ _ _ _) (fun e => by have := Option.some.inj e; omega)).keep (grown_set _ _ _ _) (fun e => by have := Option.some.inj e; omega)), fun h => by have h2 : (true : Bool) = false := h; cases h2⟩ ?_
                  clear hK K
                  refine anyS_done (by kernel_rfl) ?_ _
                  go_wp2_with fail
                  go_roundw
                  case rel => exact ⟨k + 1, _, _, _, by omega, by go_num, HS.out⟩
                  case measure => simp [intOf]; omega
                exact AllS.nil
              exact AllS.nil
            exact AllS.nil
          exact AllS.nil
        refine AllS.cons rfl (fun K hK => ?_) ?_
        · go_simp
          refine hK.out _ _ ⟨HBOX.out _ ((((Two.refl W0 _ _).alloc _).alloc _).drew), fun _ => HOUT.out _ ((((HT0.out _ _).alloc _).alloc _).drew)⟩ ?_
          clear hK K
          refine anyS_ready (rs := [4]) (by kernel_rfl) (by simp) ?_
          refine AllS.cons rfl (fun K hK => ?_) ?_
          · (refine step_append_lies _ (by rfl) _ _ 24 (by rfl) w3.heap.size 9 i9 (.string ⟨#[]⟩) 1 16 Tryd.underlying24 hi9 hy0 hy1 hy2 rfl (by decide) sk k ((ks.take k).map .string) (by rfl) (HKO.out _ ((((HT0.out _ _).alloc _).alloc _).drew)) ⟨_, 0, none⟩ 1 1 [.string s] (by rfl) rfl (World.news_of_block (cs := #[.string s]) (drew_at (old_at (by simp) (new_at _ _ _ rfl)))) (by simp [Value.oneCell']) (by decide) (by unfold maxLen; omega) (by omega) (by first | omega | (simp; done) | (simp; omega)) _ rfl ?_; intro gK capK wK hownK hgK hatK hltK; have HGK := Lib.hid hgK; have hatK2 : sk.ownBlock = some gK ∨ w2.heap.size ≤ gK := hatK.imp_right (fun e => (by rw [e]; first | omega | (simp; done) | (simp; omega))); have HWK := Lib.hid (And.intro hownK (And.intro hatK2 hltK)); have hlK := hgK.size; simp at hlK; have hOLK : w.heap.size + 1 < wK.heap.size := (by omega); have hBLK : w2.heap.size < wK.heap.size := (by omega); clear hownK hgK hatK hatK2 hltK)
            change K (Act.put _ (some 32) _) _
            refine hK.out _ _ ⟨HBOX.out _ (((((Two.refl W0 _ _).alloc _).alloc _).drew.left HGK.out)), fun _ => HOUT.out _ (((((HT0.out _ _).alloc _).alloc _).drew.left HGK.out))⟩ ?_
            clear hK K
            simp only [Act.put, List.setIfInBounds_toArray, List.set_cons_zero, List.set_cons_succ]
            refine till_take_R (i := 10) 38 (.pointer (some ⟨w.heap.size + 1, 4, none⟩)) rfl rfl (by kernel_rfl) (by kernel_rfl) (by kernel_rfl) (by decide) (fun _ _ _ h => h) (Or.inl ⟨by rfl, ?_⟩) ⟨HBOX.out _ (((((Two.refl W0 _ _).alloc _).alloc _).drew.left HGK.out)), fun _ => HOUT.out _ (((((HT0.out _ _).alloc _).alloc _).drew.left HGK.out))⟩ ?_
            · intro W hW; go_simp
            simp only [Act.put, List.setIfInBounds_toArray, List.set_cons_zero, List.set_cons_succ]
            refine anyS_ready (rs := [9]) (by kernel_rfl) (by simp) ?_
            refine AllS.cons rfl (fun K hK => ?_) ?_
            · (refine step_append_lies _ (by rfl) _ _ 23 (by rfl) w3.heap.size 26 i0 (.agg #[.int .i64 0, .int .i64 0, .string ⟨#[]⟩, .slice none 0 0, .slice none 0 0, .slice none 0 0]) 6 104 Tryd.underlying23 hi hz0 hz1 hz2 rfl (by decide) sv k (L.flatMap V.cells) (by rfl) (HVO.out _ (((((HT0.out _ _).alloc _).alloc _).drew.left HGK.out))) ⟨_, 0, none⟩ 1 1 [.int .i64 xk, .int .i64 xh, .string xt, .slice xaL ml xcL, .slice xaK mk xcK, .slice xaV mv xcV] (by rfl) rfl (World.news_of_block (cs := #[.int .i64 xk, .int .i64 xh, .string xt, .slice xaL ml xcL, .slice xaK mk xcK, .slice xaV mv xcV]) ((HGK.out.block _ (by first | omega | (simp; done) | (simp; omega)) (fun e => by have := holK _ e.symm; omega)).trans (drew_at (new_at _ _ _ (by simp))))) HONE.out (by decide) (by unfold maxLen; omega) (by omega) (by first | omega | (simp; done) | (simp; omega)) _ rfl ?_; intro gV capV wV hownV hgV hatV hltV; have HGV := Lib.hid hgV; have hatV2 : sv.ownBlock = some gV ∨ wK.heap.size ≤ gV := hatV.imp_right (fun e => (by rw [e]; first | omega | (simp; done) | (simp; omega))); have HS := Lib.hid (MF.close (X := .mk xk xh xt xaL xcL xl xaK xcK xks xaV xcV xvs) HF.out HJ.out.1 HJ.out.2 (by omega) HB2.out HX.out.1 HX.out.2.1 HX.out.2.2.1 HX.out.2.2.2.1 HX.out.2.2.2.2 ((((HT0.out _ _).alloc _).alloc _).drew) HGK.out HWK.out.1 HWK.out.2.1 HWK.out.2.2 (Two.refl wK _ _) hgV (by simp only [V.cells, HXL.out.1, HXL.out.2.1, HXL.out.2.2]; exact hownV) hatV2); have hOV := HOUT.out wV ((((((HT0.out _ _).alloc _).alloc _).drew.left HGK.out).right HGV.out)); have v4 := hOV.cell 4; have v5 := hOV.cell 5; have q4 := hOV.frozen 4; have q5 := hOV.frozen 5; simp [six6] at v4 v5; have hlV := hgV.size; (try simp at hlV); have hOLV : w.heap.size + 1 < wV.heap.size := (by omega); clear hownV hgV hatV hatV2 hltV hOV)
              change K (Act.put _ (some 37) _) _
              refine hK.out _ _ ⟨HBOX.out _ ((((((Two.refl W0 _ _).alloc _).alloc _).drew.left HGK.out).right HGV.out)), fun _ => HOUT.out _ ((((((HT0.out _ _).alloc _).alloc _).drew.left HGK.out).right HGV.out))⟩ ?_
              clear hK K
              simp only [Act.put, List.setIfInBounds_toArray, List.set_cons_zero, List.set_cons_succ]
              refine anyS_ready (rs := [11]) (by kernel_rfl) (by simp) ?_
              refine AllS.cons rfl (fun K hK => ?_) ?_
              · go_simp
                refine hK.out _ _ ⟨((HBOX.out wV ((((((Two.refl W0 _ _).alloc _).alloc _).drew.left HGK.out).right HGV.out))).keep (grown_set _ _ _ _) (fun e => by have := Option.some.inj e; omega)), fun h => by have h2 : (true : Bool) = false := h; cases h2⟩ ?_
                clear hK K
                refine till_take_R (i := 12) 39 (.pointer (some ⟨w.heap.size + 1, 5, none⟩)) rfl rfl (by kernel_rfl) (by kernel_rfl) (by kernel_rfl) (by decide) (fun _ _ _ h => h) (Or.inl ⟨by rfl, ?_⟩) ⟨((HBOX.out wV ((((((Two.refl W0 _ _).alloc _).alloc _).drew.left HGK.out).right HGV.out))).keep (grown_set _ _ _ _) (fun e => by have := Option.some.inj e; omega)), fun h => by have h2 : (true : Bool) = false := h; cases h2⟩ ?_
                · intro W hW; go_simp
                simp only [Act.put, List.setIfInBounds_toArray, List.set_cons_zero, List.set_cons_succ]
                refine anyS_ready (rs := [13]) (by kernel_rfl) (by simp) ?_
                refine AllS.cons rfl (fun K hK => ?_) ?_
                · go_simp
                  refine hK.out _ _ ⟨(((HBOX.out wV ((((((Two.refl W0 _ _).alloc _).alloc _).drew.left HGK.out).right HGV.out))).keep (grown_set _ _ _ _) (fun e => by have := Option.some.inj e; omega)).keep (grown_set _ _ _ _) (fun e => by have := Option.some.inj e; omega)), fun h => by have h2 : (true : Bool) = false := h; cases h2⟩ ?_
                  clear hK K
                  refine anyS_done (by kernel_rfl) ?_ _
                  go_wp2_with fail
                  go_roundw
                  case rel => exact ⟨k + 1, _, _, _, by omega, by go_num, HS.out⟩
                  case measure => simp [intOf]; omega
                exact AllS.nil
              exact AllS.nil
            exact AllS.nil
          exact AllS.nil
        exact AllS.nil
      refine AllS.cons rfl (fun K hK => ?_) ?_
      · go_simp
        refine hK.out _ _ ⟨HBOX.out _ (((Two.refl W0 _ _).alloc _).drew), fun _ => HOUT.out _ (((HT0.out _ _).alloc _).drew)⟩ ?_
        clear hK K
        refine anyS_ready (rs := [3]) (by kernel_rfl) (by simp) ?_
        refine AllS.cons rfl (fun K hK => ?_) ?_
        · go_simp
          refine hK.out _ _ ⟨HBOX.out _ ((((Two.refl W0 _ _).alloc _).alloc _).drew), fun _ => HOUT.out _ ((((HT0.out _ _).alloc _).alloc _).drew)⟩ ?_
          clear hK K
          refine anyS_ready (rs := [4]) (by kernel_rfl) (by simp) ?_
          refine AllS.cons rfl (fun K hK => ?_) ?_
          · (refine step_append_lies _ (by rfl) _ _ 24 (by rfl) w3.heap.size 9 i9 (.string ⟨#[]⟩) 1 16 Tryd.underlying24 hi9 hy0 hy1 hy2 rfl (by decide) sk k ((ks.take k).map .string) (by rfl) (HKO.out _ ((((HT0.out _ _).alloc _).alloc _).drew)) ⟨_, 0, none⟩ 1 1 [.string s] (by rfl) rfl (World.news_of_block (cs := #[.string s]) (drew_at (new_at _ _ _ (by simp)))) (by simp [Value.oneCell']) (by decide) (by unfold maxLen; omega) (by omega) (by first | omega | (simp; done) | (simp; omega)) _ rfl ?_; intro gK capK wK hownK hgK hatK hltK; have HGK := Lib.hid hgK; have hatK2 : sk.ownBlock = some gK ∨ w2.heap.size ≤ gK := hatK.imp_right (fun e => (by rw [e]; first | omega | (simp; done) | (simp; omega))); have HWK := Lib.hid (And.intro hownK (And.intro hatK2 hltK)); have hlK := hgK.size; simp at hlK; have hOLK : w.heap.size + 1 < wK.heap.size := (by omega); have hBLK : w2.heap.size < wK.heap.size := (by omega); clear hownK hgK hatK hatK2 hltK)
            change K (Act.put _ (some 32) _) _
            refine hK.out _ _ ⟨HBOX.out _ (((((Two.refl W0 _ _).alloc _).alloc _).drew.left HGK.out)), fun _ => HOUT.out _ (((((HT0.out _ _).alloc _).alloc _).drew.left HGK.out))⟩ ?_
            clear hK K
            simp only [Act.put, List.setIfInBounds_toArray, List.set_cons_zero, List.set_cons_succ]
            refine till_take_R (i := 10) 38 (.pointer (some ⟨w.heap.size + 1, 4, none⟩)) rfl rfl (by kernel_rfl) (by kernel_rfl) (by kernel_rfl) (by decide) (fun _ _ _ h => h) (Or.inl ⟨by rfl, ?_⟩) ⟨HBOX.out _ (((((Two.refl W0 _ _).alloc _).alloc _).drew.left HGK.out)), fun _ => HOUT.out _ (((((HT0.out _ _).alloc _).alloc _).drew.left HGK.out))⟩ ?_
            · intro W hW; go_simp
            simp only [Act.put, List.setIfInBounds_toArray, List.set_cons_zero, List.set_cons_succ]
            refine anyS_ready (rs := [9]) (by kernel_rfl) (by simp) ?_
            refine AllS.cons rfl (fun K hK => ?_) ?_
            · (refine step_append_lies _ (by rfl) _ _ 23 (by rfl) w3.heap.size 26 i0 (.agg #[.int .i64 0, .int .i64 0, .string ⟨#[]⟩, .slice none 0 0, .slice none 0 0, .slice none 0 0]) 6 104 Tryd.underlying23 hi hz0 hz1 hz2 rfl (by decide) sv k (L.flatMap V.cells) (by rfl) (HVO.out _ (((((HT0.out _ _).alloc _).alloc _).drew.left HGK.out))) ⟨_, 0, none⟩ 1 1 [.int .i64 xk, .int .i64 xh, .string xt, .slice xaL ml xcL, .slice xaK mk xcK, .slice xaV mv xcV] (by rfl) rfl (World.news_of_block (cs := #[.int .i64 xk, .int .i64 xh, .string xt, .slice xaL ml xcL, .slice xaK mk xcK, .slice xaV mv xcV]) ((HGK.out.block _ (by first | omega | (simp; done) | (simp; omega)) (fun e => by have := holK _ e.symm; omega)).trans (drew_at (old_at (by simp) (new_at _ _ _ rfl))))) HONE.out (by decide) (by unfold maxLen; omega) (by omega) (by first | omega | (simp; done) | (simp; omega)) _ rfl ?_; intro gV capV wV hownV hgV hatV hltV; have HGV := Lib.hid hgV; have hatV2 : sv.ownBlock = some gV ∨ wK.heap.size ≤ gV := hatV.imp_right (fun e => (by rw [e]; first | omega | (simp; done) | (simp; omega))); have HS := Lib.hid (MF.close (X := .mk xk xh xt xaL xcL xl xaK xcK xks xaV xcV xvs) HF.out HJ.out.1 HJ.out.2 (by omega) HB2.out HX.out.1 HX.out.2.1 HX.out.2.2.1 HX.out.2.2.2.1 HX.out.2.2.2.2 ((((HT0.out _ _).alloc _).alloc _).drew) HGK.out HWK.out.1 HWK.out.2.1 HWK.out.2.2 (Two.refl wK _ _) hgV (by simp only [V.cells, HXL.out.1, HXL.out.2.1, HXL.out.2.2]; exact hownV) hatV2); have hOV := HOUT.out wV ((((((HT0.out _ _).alloc _).alloc _).drew.left HGK.out).right HGV.out)); have v4 := hOV.cell 4; have v5 := hOV.cell 5; have q4 := hOV.frozen 4; have q5 := hOV.frozen 5; simp [six6] at v4 v5; have hlV := hgV.size; (try simp at hlV); have hOLV : w.heap.size + 1 < wV.heap.size := (by omega); clear hownV hgV hatV hatV2 hltV hOV)
              change K (Act.put _ (some 37) _) _
              refine hK.out _ _ ⟨HBOX.out _ ((((((Two.refl W0 _ _).alloc _).alloc _).drew.left HGK.out).right HGV.out)), fun _ => HOUT.out _ ((((((HT0.out _ _).alloc _).alloc _).drew.left HGK.out).right HGV.out))⟩ ?_
              clear hK K
              simp only [Act.put, List.setIfInBounds_toArray, List.set_cons_zero, List.set_cons_succ]
              refine anyS_ready (rs := [11]) (by kernel_rfl) (by simp) ?_
              refine AllS.cons rfl (fun K hK => ?_) ?_
              · go_simp
                refine hK.out _ _ ⟨((HBOX.out wV ((((((Two.refl W0 _ _).alloc _).alloc _).drew.left HGK.out).right HGV.out))).keep (grown_set _ _ _ _) (fun e => by have := Option.some.inj e; omega)), fun h => by have h2 : (true : Bool) = false := h; cases h2⟩ ?_
                clear hK K
                refine till_take_R (i := 12) 39 (.pointer (some ⟨w.heap.size + 1, 5, none⟩)) rfl rfl (by kernel_rfl) (by kernel_rfl) (by kernel_rfl) (by decide) (fun _ _ _ h => h) (Or.inl ⟨by rfl, ?_⟩) ⟨((HBOX.out wV ((((((Two.refl W0 _ _).alloc _).alloc _).drew.left HGK.out).right HGV.out))).keep (grown_set _ _ _ _) (fun e => by have := Option.some.inj e; omega)), fun h => by have h2 : (true : Bool) = false := h; cases h2⟩ ?_
                · intro W hW; go_simp
                simp only [Act.put, List.setIfInBounds_toArray, List.set_cons_zero, List.set_cons_succ]
                refine anyS_ready (rs := [13]) (by kernel_rfl) (by simp) ?_
                refine AllS.cons rfl (fun K hK => ?_) ?_
                · go_simp
                  refine hK.out _ _ ⟨(((HBOX.out wV ((((((Two.refl W0 _ _).alloc _).alloc _).drew.left HGK.out).right HGV.out))).keep (grown_set _ _ _ _) (fun e => by have := Option.some.inj e; omega)).keep (grown_set _ _ _ _) (fun e => by have := Option.some.inj e; omega)), fun h => by have h2 : (true : Bool) = false := h; cases h2⟩ ?_
                  clear hK K
                  refine anyS_done (by kernel_rfl) ?_ _
                  go_wp2_with fail
                  go_roundw
                  case rel => exact ⟨k + 1, _, _, _, by omega, by go_num, HS.out⟩
                  case measure => simp [intOf]; omega
                exact AllS.nil
              exact AllS.nil
            exact AllS.nil
          exact AllS.nil
        exact AllS.nil
      exact AllS.nil
    · have hkn : k = n := by omega
      have hform : ∀ (T : TypeId) (sz : Nat) (v : Value) (xs : List Value), wr.ownsRow w3.heap.size T sz v k xs → ∃ A' c', v = .slice A' k c' ∧ k ≤ c' := fun T sz v xs h => by
        rcases h.2 with ⟨h1, h2⟩ | ⟨g, cap, cur, h1, _, hg, h2, h3, h4, _⟩
        · exact ⟨none, 0, by rw [h1, h2], by omega⟩
        · exact ⟨_, cap, h1, h2⟩
      obtain ⟨AK, cK, rfl, hcK⟩ := hform _ _ _ _ hF.ownK
      obtain ⟨AV, cV, rfl, hcV⟩ := hform _ _ _ _ hF.ownV
      have hRes : Cells wr w.heap.size 26 (six3 0 nils nils nils) := HR3.out.keep hF.grow (fun e => by have := Option.some.inj e; omega)
      have c0 := hF.out.cell 0
      have c1 := hF.out.cell 1
      have c2 := hF.out.cell 2
      have c3 := hF.out.cell 3
      have c4 := hF.out.cell 4
      have c5 := hF.out.cell 5
      have r0 := hRes.cell 0
      have r1 := hRes.cell 1
      have r2 := hRes.cell 2
      have r3 := hRes.cell 3
      have r4 := hRes.cell 4
      have r5 := hRes.cell 5
      have f0 := hRes.frozen 0
      have f1 := hRes.frozen 1
      have f2 := hRes.frozen 2
      have f3 := hRes.frozen 3
      have f4 := hRes.frozen 4
      have f5 := hRes.frozen 5
      simp [six3, six6, nils] at c0 c1 c2 c3 c4 c5 r0 r1 r2 r3 r4 r5
      have hlt1 := hRes.lt
      have HF := Lib.hid hF
      have HKN := Lib.hid hkn
      have HC := Lib.hid (And.intro hcK hcV)
      have HBWR := Lib.hid hbwr
      clear hF hkn hcK hcV HFR hRes hform hbwr
      go_wp2_with fail
      refine bodyPost_ret (v := .tuple #[.agg #[.int .i64 6, .int .i64 0, .string ⟨#[]⟩, .slice none 0 0, .slice AK k cK, .slice AV k cV], .bool true]) (by simp [results, Tryd.results34, go_sem, r0, r1, r2, r3, r4, r5]) rfl ?_
      have hf := HF.out
      have hk := HKN.out
      obtain ⟨hcK, hcV⟩ := HC.out
      have hgs := grown_six wr w.heap.size (.int .i64 6) (.int .i64 0) (.string ⟨#[]⟩) (.slice none 0 0) (.slice AK k cK) (.slice AV k cV)
      have hbase := HBWR.out.size
      have hs3b := hf.grow.size
      have hl : ks.take k = ks := List.take_of_length_le (by rw [HN.out]; omega)
      have hlv : vs.take k = vs := List.take_of_length_le (by rw [← HL.out.1, HN.out]; omega)
      have holK := hf.ownK.lt
      have holV := hf.ownV.lt
      have hbelow := below_six HBWR.out (Nat.le_refl _) (.int .i64 6) (.int .i64 0) (.string ⟨#[]⟩) (.slice none 0 0) (.slice AK k cK) (.slice AV k cV)
      have hownK := hf.ownK.kept hgs (by
        cases AK with
        | none => exact Or.inl rfl
        | some a => refine Or.inr (fun e => ?_); have := holK _ e; omega)
      have hownV := hf.ownV.kept hgs (by
        cases AV with
        | none => exact Or.inl rfl
        | some a => refine Or.inr (fun e => ?_); have := holV _ e; omega)
      generalize ((((((wr.setCell ⟨w.heap.size, 0, none⟩ (.int .i64 6)).setCell ⟨w.heap.size, 1, none⟩ (.int .i64 0)).setCell ⟨w.heap.size, 2, none⟩ (.string ⟨#[]⟩)).setCell ⟨w.heap.size, 3, none⟩ (.slice none 0 0)).setCell ⟨w.heap.size, 4, none⟩ (.slice AK k cK)).setCell ⟨w.heap.size, 5, none⟩ (.slice AV k cV)) = wf at *
      have hlen2 := hf.len
      have hkl : ks.length = k := by rw [HN.out]; omega
      rw [hl] at hownK
      refine ⟨.mk 6 0 ⟨#[]⟩ none 0 [] AK cK ks AV cV L, by rw [V.val_mk, hlen2, hkl]; rfl, hbelow, ?_, ?_, ?_, ?_, ?_⟩
      · unfold V.In
        refine ⟨?_, rowsV_nil _ _ _, reads_of_own hownK, rowsV_of_own hownV, by unfold AllIn; trivial, ?_⟩
        · unfold V.Own
          have : (⟨#[]⟩ : ByteArray).size = 0 := rfl
          refine ⟨by decide, by decide, by rw [this]; decide, by simp, by simp, by omega, by omega, by omega, by omega, HSZ.out⟩
        · refine AllIn.stay (B := wr.heap.size) hgs.size (fun p hp hlt => World.cell?_of_block (hgs.block p.block hlt (fun e => by have := Option.some.inj e; omega))) hf.all hf.blocks
      · unfold V.Blocks
        refine ⟨fun h => absurd rfl h, fun hn ad e => ?_, fun hn ad e => ?_, by unfold BlocksAll; trivial, hf.blocks.more fun b hb => by simp only [From]; omega⟩
        · subst e
          have := holK ad.block rfl
          simp only [From]; omega
        · subst e
          have := holV ad.block rfl
          simp only [From]; omega
      · simp only [V.toJ]
        simp
        rw [hf.toJ, hlv]
      · unfold V.Good
        refine ⟨⟨by decide, by decide, Or.inr rfl, Or.inr empty_list, Or.inr rfl, Or.inl rfl, ?_⟩, c2_zero, valid_empty, ⟨HVAL.out, HR.out⟩, by unfold GoodAll; trivial, hf.good⟩
        rw [hkl, hlen2]
      · simp only [V.parts, J.parts, partsAll, hf.parts, hlv]
        omega
end Go.Proofs.YtpigccnlembfdaaDoor
