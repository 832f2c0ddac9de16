/- The whole walk of FnShBack: it returns true at any list of strings. Conditions: the two tables of package utf8 lie where they lie. -/
import Derived.Test.YtpigccnlembfdaaGreatDoorShWords
import Derived.Test.YtpigccnlembfdaaGreatDoorStage
namespace Go.Proofs.YtpigccnlembfdaaGreatDoor
open Go.RowKit

theorem info_val : (Tryz.prog.info? 26).map (fun i => (i.zero, i.size, i.bytes)) = some (some (.agg #[.int .i64 0, .int .i64 0, .string ⟨#[]⟩, .slice none 0 0, .slice none 0 0, .slice none 0 0]), 6, 104) := by kernel_rfl

set_option maxRecDepth 100000 in
set_option maxHeartbeats 4000000 in
theorem shLaw_any {Tabs : World → Prop} (hV : ValidSaid Tabs) {N : Nat} (hTk : ∀ w w' : World, ∀ g, N ≤ g → Tabs w → w.grownBy w' (some g) → Tabs w') (A : Option Addr) (c : Nat) (ss : List ByteArray) (w : World)
    (hr : Reads w w.heap.size A (ss.map .string)) (hm : ss.length ≤ 140737488351232) (hbs : ∀ s ∈ ss, s.size ≤ 140737488351232) (hNw : N ≤ w.heap.size) (hT : Tabs w) :
    Calls Tryz.prog 5 #[.slice A ss.length c] w (Same0 w (.bool true)) := by
  have hTb : ∀ w', Below w.heap.size w w' → Tabs w' := fun w' hb => hTk w w' w.heap.size hNw hT (grown_below hb _)
  have hVal : ∀ (s : ByteArray) w', Below w.heap.size w w' → s ∈ ss → Calls Tryz.prog 14 #[.string s] w' fun e w'' => e = .returned (.bool (Lib.validD s.data.toList)) ∧ Below w'.heap.size w' w'' := fun s w' hb hs => hV s w' (by have := hbs s hs; omega) (hTb w' hb)
  have hZ := fits2_len w w.heap.size A ss.length c ss hr rfl hm
  obtain ⟨n, hn⟩ : ∃ n, n = ss.length := ⟨_, rfl⟩
  rw [← hn] at hZ hm ⊢
  have HVAL := Lib.hid hVal
  have HZ := Lib.hid hZ
  have HR := Lib.hid hr
  have HN := Lib.hid hn
  have HBS := Lib.hid hbs
  obtain ⟨i0, hi, he0⟩ := Option.map_eq_some_iff.1 info_val
  have hz0 : i0.zero = some (.agg #[.int .i64 0, .int .i64 0, .string ⟨#[]⟩, .slice none 0 0, .slice none 0 0, .slice none 0 0]) := congrArg (·.1) he0
  have hz1 : i0.size = 6 := congrArg (·.2.1) he0
  have hz2 : i0.bytes = 104 := congrArg (·.2.2) he0
  have HI := Lib.hid (And.intro hi (And.intro hz0 (And.intro hz1 hz2)))
  clear hVal hZ hr hn hTb hT hTk hV hbs hm hi he0 hz0 hz1 hz2
  go_enter Tryz.func5, Tryz.ntmps5
  go_wp2_with fail
  refine HZ.out.mono ?_
  rintro e w1 ⟨rfl, b1, rfl, hb1⟩
  cases b1
  · go_wp2_with fail
    go_ret
    exact ⟨rfl, Below.refl _ _⟩
  have hmax : n ≤ 2147483647 := hb1 rfl
  clear hb1 HZ
  go_wp2_with fail
  go_loopw [4] (fun i wr => ∃ (k : Nat) (sv : Value), k ≤ n ∧ i = .int .i64 k ∧ Hid (SL w1 wr ss k sv)) (fun i _ => n - (intOf i).toNat)
  case atStart =>
    refine ⟨0, .slice none 0 0, Nat.zero_le _, rfl, ?_, ?_, ?_, ?_⟩
    · exact below1 _ _
    · exact BoxAt.new w1 (box5 (.slice none 0 0))
    · exact World.ownsRow_nil _ _ _ _
    · intro s hs; simp at hs
  case round =>
    obtain ⟨k, sv, hk, rfl, HF⟩ := hrel
    by_cases hlt : k < n
    · obtain ⟨s, hs⟩ : ∃ s, ss[k]? = some s := ⟨_, List.getElem?_eq_getElem (by rw [← HN.out]; exact hlt)⟩
      obtain ⟨ad, rfl, hadb, hrow⟩ := HR.out (by intro e; rw [List.map_eq_nil_iff] at e; rw [e] at hs; simp at hs)
      have hcell : ∀ W, Below wr.heap.size wr W → W.cell? (ad.add k) = some (.string s) := fun W hb => (hb.cell (by rw [block_of_add]; have := HF.out.below.size; omega)).trans ((HF.out.below.cell (by rw [block_of_add]; exact hadb)).trans (hrow k _ (by simp [hs])))
      have d0 := hcell wr (Below.refl _ _)
      have HCELL := Lib.hid hcell
      have HS := Lib.hid hs
      have hbw := HF.out.below.size
      have hVs := HVAL.out s wr HF.out.below (List.mem_of_getElem? hs)
      have HVS := Lib.hid hVs
      clear hcell hrow hs hVs
      by_cases hsz : (4096 : Int) < (s.size : Int)
      · go_wp2_with fail
        go_ret
        exact ⟨rfl, HF.out.below⟩
      · go_wp2_with fail
        refine HVS.out.mono ?_
        rintro e w2 ⟨rfl, hb2⟩
        have d2 := HCELL.out w2 hb2
        have HB2 := Lib.hid hb2
        clear hb2 d0 HVS
        generalize hv : Lib.validD s.data.toList = bv
        have HVV := Lib.hid hv
        clear hv
        cases bv
        · go_wp2_with fail
          go_ret
          exact ⟨rfl, HF.out.below.trans (HB2.out.mono hbw)⟩
        · go_wp2_with (go_at_call 16; refine (str_mk _ s).mono ?_; rintro e w3 ⟨rfl, hb3⟩; have HB3 := Lib.hid (HB2.out.trans (hb3.mono HB2.out.size)); clear hb3)
          refine (nul_any _ s (by omega)).mono ?_
          rintro e w4 ⟨b4, rfl, hb4, hz4⟩
          have HB4 := Lib.hid (HB3.out.trans (hb4.mono HB3.out.size))
          have HZ4 := Lib.hid hz4
          clear hb4 hz4 HB3 d2
          cases b4
          · have hword : Word s := ⟨by omega, HVV.out, HZ4.out (by first | rfl | trivial)⟩
            have HW := Lib.hid hword
            clear hword
            obtain ⟨hi, hz0, hz1, hz2⟩ := HI.out
            have hltH := HF.out.out.lt
            have hsz4 := HB4.out.size
            go_wp2_with fail
            refine wp_region_S (Sf := Till 10 (fun W => W.cell? (ad.add k) = some (.string s)) (fun W => BoxAt W w1.heap.size (box5 sv))) (by kernel_rfl) ?_
            refine till_take_R (i := 0) 44 (.pointer (some ⟨w1.heap.size, 3, none⟩)) rfl rfl (by kernel_rfl) (by kernel_rfl) (by kernel_rfl) (by decide) (fun _ _ _ h => h) (Or.inl ⟨by rfl, ?_⟩) ⟨HCELL.out _ HB4.out.drew, fun _ => HF.out.out.below HB4.out.drew⟩ ?_
            · intro W hW; go_simp
            simp only [Act.put, List.setIfInBounds_toArray, List.set_cons_zero, List.set_cons_succ]
            refine till_take_S (i := 1) 45 (sv) rfl rfl (by kernel_rfl) (by kernel_rfl) (by kernel_rfl) (by decide) (by kernel_rfl) (by kernel_rfl) (fun _ _ _ h => h) (Or.inl ⟨by rfl, ?_⟩) ⟨HCELL.out _ HB4.out.drew, fun _ => HF.out.out.below HB4.out.drew⟩ ?_
            · intro W hW; (have h3 := BoxAt.cell (show BoxAt W w1.heap.size (box5 sv) from hW) 3; simp [box5] at h3; go_simp)
            simp only [Act.put, List.setIfInBounds_toArray, List.set_cons_zero, List.set_cons_succ]
            refine till_take_R (i := 2) 46 (.slice (some ad) n c) rfl rfl (by kernel_rfl) (by kernel_rfl) (by kernel_rfl) (by decide) (fun _ _ _ h => h) (Or.inl ⟨by rfl, ?_⟩) ⟨HCELL.out _ HB4.out.drew, fun _ => HF.out.out.below HB4.out.drew⟩ ?_
            · intro W hW; go_simp
            simp only [Act.put, List.setIfInBounds_toArray, List.set_cons_zero, List.set_cons_succ]
            refine till_take_R (i := 3) 47 (.int .i64 k) rfl rfl (by kernel_rfl) (by kernel_rfl) (by kernel_rfl) (by decide) (fun _ _ _ h => h) (Or.inl ⟨by rfl, ?_⟩) ⟨HCELL.out _ HB4.out.drew, fun _ => HF.out.out.below HB4.out.drew⟩ ?_
            · intro W hW; go_simp
            simp only [Act.put, List.setIfInBounds_toArray, List.set_cons_zero, List.set_cons_succ]
            refine till_take_R (i := 4) 48 (.pointer (some (ad.add k))) rfl rfl (by kernel_rfl) (by kernel_rfl) (by kernel_rfl) (by decide) (fun _ _ _ h => h) (Or.inl ⟨by rfl, ?_⟩) ⟨HCELL.out _ HB4.out.drew, fun _ => HF.out.out.below HB4.out.drew⟩ ?_
            · intro W hW; go_simp
            simp only [Act.put, List.setIfInBounds_toArray, List.set_cons_zero, List.set_cons_succ]
            refine till_take_R (i := 5) 49 (.string s) rfl rfl (by kernel_rfl) (by kernel_rfl) (by kernel_rfl) (by decide) (fun _ _ _ h => h) (Or.inl ⟨by rfl, ?_⟩) ⟨HCELL.out _ HB4.out.drew, fun _ => HF.out.out.below HB4.out.drew⟩ ?_
            · intro W hW; (have hc : W.cell? (ad.add k) = some (.string s) := hW; go_simp)
            simp only [Act.put, List.setIfInBounds_toArray, List.set_cons_zero, List.set_cons_succ]
            refine anyS_ready (rs := [6]) (by kernel_rfl) (by simp) ?_
            refine AllS.cons rfl (fun K hK => ?_) AllS.nil
            go_simp
            refine (str_mk _ s).mono ?_
            rintro e w5 ⟨rfl, hb5⟩
            have HB5 := Lib.hid (HB4.out.drew.trans (hb5.mono HB4.out.size))
            clear hb5
            go_wp2_with fail
            refine hK.out _ _ ⟨HCELL.out _ HB5.out, fun _ => HF.out.out.below HB5.out⟩ ?_
            clear hK K
            refine anyS_ready (rs := [7]) (by kernel_rfl) (by simp) ?_
            refine AllS.cons rfl (fun K hK => ?_) AllS.nil
            go_simp
            refine hK.out _ _ ⟨HCELL.out _ (HB5.out.alloc HB5.out.size _), fun _ => HF.out.out.below (HB5.out.alloc HB5.out.size _)⟩ ?_
            clear hK K
            have hsz5 := HB5.out.size
            have hown5 : (w5.alloc (.cells #[.int .i64 4, .int .i64 0, .string s, .slice none 0 0, .slice none 0 0, .slice none 0 0] 26)).ownsRow (w1.heap.size + 1) 26 6 sv k (flatS (ss.take k)) := (HF.out.own.kept (grown_below HB5.out none) (by cases sv.ownBlock <;> simp)).alloc _
            have HO5 := Lib.hid hown5
            clear hown5
            refine anyS_ready (rs := [8]) (by kernel_rfl) (by simp) ?_
            refine AllS.cons rfl (fun K hK => ?_) AllS.nil
            refine step_append_lies _ (by rfl) _ _ 23 (by rfl) (w1.heap.size + 1) 26 i0 (.agg #[.int .i64 0, .int .i64 0, .string ⟨#[]⟩, .slice none 0 0, .slice none 0 0, .slice none 0 0]) 6 104 Tryz.underlying23 hi hz0 hz1 hz2 rfl (by decide) sv k (flatS (ss.take k)) (by rfl) HO5.out ⟨_, 0, none⟩ 1 1 [.int .i64 4, .int .i64 0, .string s, .slice none 0 0, .slice none 0 0, .slice none 0 0] (by rfl) rfl (World.news_of_block (cs := #[.int .i64 4, .int .i64 0, .string s, .slice none 0 0, .slice none 0 0, .slice none 0 0]) (heap_alloc_new _ _)) (by simp [Value.oneCell']) (by decide) (by unfold maxLen; omega) (by omega) (by first | omega | (simp; done) | (simp; omega)) _ rfl ?_
            intro g cap w6 hown6 hg6 hat6 hlt6
            have hol := HF.out.own.lt
            have hS := SL.step HF.out HS.out HW.out (HB5.out.alloc HB5.out.size _) hg6 hown6
            have hR6 : w6.cell? (ad.add k) = some (.string s) := (World.cell?_of_block (hg6.block _ (by rw [block_of_add]; simp; have := HB5.out.size; have := HF.out.below.size; omega) (fun e => by rw [block_of_add] at e; have := hol _ e.symm; have := HF.out.below.size; omega))).trans (HCELL.out _ (HB5.out.alloc HB5.out.size _))
            have hO6 : BoxAt w6 w1.heap.size (box5 sv) := (HF.out.out.below (HB5.out.alloc HB5.out.size _)).keep hg6 (fun e => by have := hol _ e.symm; omega)
            have v3 := hO6.cell 3
            have q3 := hO6.frozen 3
            simp [box5] at v3
            have HSS := Lib.hid hS
            have HR6 := Lib.hid hR6
            have HO6 := Lib.hid hO6
            have hlt7 := hO6.lt
            clear hS hown6 hg6 hat6 hR6 hO6
            change K (Act.put _ (some 52) _) _
            refine hK.out _ _ ⟨HR6.out, fun _ => HO6.out⟩ ?_
            clear hK K
            simp only [Act.put, List.setIfInBounds_toArray, List.set_cons_zero, List.set_cons_succ]
            refine till_take_R (i := 9) 53 (.pointer (some ⟨w1.heap.size, 3, none⟩)) rfl rfl (by kernel_rfl) (by kernel_rfl) (by kernel_rfl) (by decide) (fun _ _ _ h => h) (Or.inl ⟨by rfl, ?_⟩) ⟨HR6.out, fun _ => HO6.out⟩ ?_
            · intro W hW; go_simp
            simp only [Act.put, List.setIfInBounds_toArray, List.set_cons_zero, List.set_cons_succ]
            refine anyS_ready (rs := [10]) (by kernel_rfl) (by simp) ?_
            refine AllS.cons rfl (fun K hK => ?_) AllS.nil
            go_simp
            refine hK.out _ _ ⟨?_, fun h => by have h2 : (true : Bool) = false := h; cases h2⟩ ?_
            · exact (World.cell?_of_block ((grown_set w6 w1.heap.size 3 _).block _ (by rw [block_of_add]; have := HF.out.below.size; omega) (fun e => by rw [block_of_add] at e; have := Option.some.inj e; omega))).trans HR6.out
            clear hK K
            refine anyS_done (by kernel_rfl) ?_ _
            go_wp2_with fail
            go_roundw
            case rel => exact ⟨k + 1, _, by omega, by go_num, HSS⟩
            case measure => simp [intOf]; omega
          · go_wp2_with fail
            go_ret
            exact ⟨rfl, HF.out.below.trans (HB4.out.mono hbw)⟩
    · have hkn : k = n := by omega
      have hcells := fun i => HF.out.out.cell i
      have c0 := hcells 0
      have c1 := hcells 1
      have c2 := hcells 2
      have c3 := hcells 3
      have c4 := hcells 4
      have c5 := hcells 5
      simp [box5] at c0 c1 c2 c3 c4 c5
      clear hcells
      by_cases hn0 : n = 0
      · subst hn0
        go_wp2_with fail
        go_ret
        exact ⟨rfl, HF.out.below⟩
      by_cases hn50 : (50 : Int) < (n : Int)
      · have hne : ((n : Int) == 0) = false := by simp; omega
        go_wp2_with fail
        go_ret
        exact ⟨rfl, HF.out.below⟩
      have hF := HF.out
      rw [hkn, HN.out] at hF
      have hok := hF.ok
      rw [List.take_length] at hok
      have hss : ss ≠ [] := by rintro rfl; have := HN.out; simp at this; exact hn0 this
      obtain ⟨A', c', rfl, hin, hgd⟩ := hF.tree (by have := HN.out; omega)
      have hFS := formatSh_any ss A' c' wr wr.heap.size (Nat.le_refl _) (by have := HN.out; omega) hss (fun s hs => by have := (hok s hs).1; omega) hin hgd
      obtain ⟨T, hTT⟩ : ∃ T, T = Lib.join (ss.map fun s => shq s.data.toList) [32] := ⟨_, rfl⟩
      have hTl : T.length ≤ 204800000 := by
        have h1 := join_bound ss (fun s hs => by have := (hok s hs).1; omega)
        rw [← hTT] at h1
        have := HN.out
        omega
      have hrun : sh T [[]] false = some (ss.map fun s => s.data.toList, false) := by
        have h1 := sh_words (ss.map fun s => s.data.toList) [] (by simpa using hss) (fun t ht b hb => by
          obtain ⟨s, hs, rfl⟩ := List.mem_map.1 ht
          exact (hok s hs).2.2 b hb)
        rw [List.map_map] at h1
        rw [hTT]
        exact h1
      have hst : shText ss = ⟨T.toArray⟩ := by rw [hTT]; rfl
      rw [hst] at hFS
      obtain ⟨St, hSt⟩ : ∃ St : ByteArray, St = ⟨T.toArray⟩ := ⟨_, rfl⟩
      have hSl : St.size = T.length := by rw [hSt]; simp [ByteArray.size]
      rw [← hSt, ← HN.out] at hFS
      rw [← HN.out] at c3
      have HFS := Lib.hid hFS
      have HRUN := Lib.hid hrun
      have HTL := Lib.hid hTl
      have HST := Lib.hid hSt
      have HSL := Lib.hid hSl
      have hSTl : St.size ≤ 204800000 := by omega
      have hne : ((n : Int) == 0) = false := by simp; omega
      have hnn : (n : Int) ≤ 50 := by omega
      have HBW := Lib.hid HF.out.below
      clear hF hok hss hin hgd hFS hTl hrun hst hSt hSl hTT hkn hn0 hn50 HF HVAL HI
      go_wp2_with (first
        | (go_at_call 12; refine HFS.out.mono ?_; rintro e w2 ⟨rfl, hb2⟩; have HB2 := Lib.hid (HBW.out.trans (hb2.mono HBW.out.size)); clear hb2)
        | (go_at_call 17; refine (text_any _ _).mono ?_; rintro e w3 ⟨rfl, hb3⟩; have HB3 := Lib.hid (HB2.out.trans (hb3.mono HB2.out.size)); clear hb3))
      go_loopw [7, 8, 9] (fun ws inn i wz => ∃ (q : Nat) (sw : Value) (L : List (List UInt8)) (b : Bool), sw = ws ∧ inn = .bool b ∧ i = .int .i64 q ∧ q ≤ T.length ∧ Hid (SW w3 wz T q sw L b (ss.map fun s => s.data.toList))) (fun _ _ i _ => T.length - (intOf i).toNat)
      case atStart =>
        refine ⟨0, _, [[]], false, rfl, rfl, rfl, Nat.zero_le _, ?_⟩
        exact Lib.hid ⟨below1 _ _, ⟨rfl, Or.inr ⟨w3.heap.size, 1, #[.string ⟨#[]⟩], rfl, Nat.le_refl _, heap_alloc_new w3 _, Nat.le_refl _, by decide, rfl, rfl⟩⟩, by simp, HRUN.out, by simp, fun t ht => by rw [List.mem_singleton.1 ht]; simp⟩
      case round =>
        obtain ⟨q, sw, L, b, rfl, rfl, rfl, hq, HW⟩ := hrel
        have hsq : q ≤ 204800000 := by have := HTL.out; omega
        by_cases hlt2 : q < T.length
        · obtain ⟨x, hx⟩ : ∃ x, T[q]? = some x := ⟨_, List.getElem?_eq_getElem hlt2⟩
          have hext : St.extract q (q + 1) = ⟨#[x]⟩ := ext_one HST.out hx
          have hqs : q < St.size := by have := HSL.out; omega
          have hways := HW.out.ways hx
          have HX := Lib.hid hx
          clear hx
          rcases hways with rfl | ⟨h39, rfl⟩ | ⟨rfl, rfl⟩ | ⟨rfl, rfl, x', hx'⟩
          · go_wp2_with fail
            refine ⟨⟨q + 1, sw, L, !b, rfl, rfl, by go_num, by omega, Lib.hid (HW.out.quote HX.out)⟩, ?_⟩
            simp [intOf]; omega
          · have e39 : (x == 39) = false := by simp [h39]
            have H39 := Lib.hid h39
            clear h39
            obtain ⟨d, cur, g, cap, rfl, rfl, hc0, hf0, hlen, hcap, hglt, hdq⟩ := HW.out.last
            have hdl : d.length ≤ 204800000 := by omega
            have hcl2 : cur.length ≤ 204800000 := by omega
            unfold wv at hc0
            have hcl : ({ data := cur.toArray } : ByteArray).size = cur.length := by simp [ByteArray.size]
            have hf1 := hf0 d.length
            clear hf0
            go_wp2_with fail
            all_goals
              rw [wv_snoc]
              refine ⟨⟨q + 1, _, d ++ [cur ++ [x]], true, rfl, rfl, by go_num, by omega, Lib.hid (HW.out.char (Or.inl ⟨rfl, H39.out, HX.out, rfl⟩))⟩, ?_⟩
              simp [intOf]; omega
          · obtain ⟨i9, hi9, he9⟩ := Option.map_eq_some_iff.1 info_strT
            have hy0 : i9.zero = some (.string ⟨#[]⟩) := congrArg (·.1) he9
            have hy1 : i9.size = 1 := congrArg (·.2.1) he9
            have hy2 : i9.bytes = 16 := congrArg (·.2.2) he9
            clear he9
            go_wp2_with (at_builtin; refine wpList_append_own _ rfl _ _ _ rfl w3.heap.size 9 i9 (.string ⟨#[]⟩) 1 16 Tryz.underlying24 hi9 hy0 hy1 hy2 rfl (by decide) sw L.length (L.map wv) rfl (HW.out.own.alloc _) _ 1 1 [.string ⟨#[]⟩] rfl rfl (World.news_of_block (cs := #[.string ⟨#[]⟩]) (heap_alloc_new _ _)) (by simp [Value.oneCell']) (by have := HW.out.many; unfold maxLen; omega) (by have := HW.out.many; omega) (by have := HW.out.below.size; simp; omega) ?_; intro v' w5 hown5 hg5 hnil5; have HS5 := Lib.hid (HW.out.blank HX.out (below1 _ _) hg5 hown5); clear hown5 hg5 hnil5)
            all_goals
              refine ⟨⟨q + 1, _, L ++ [[]], false, rfl, rfl, by go_num, by omega, HS5⟩, ?_⟩
              simp [intOf]; omega
          · have hlt3 : q + 1 < T.length := (List.getElem?_eq_some_iff.1 hx').1
            have hqs3 : q + 1 < St.size := by have := HSL.out; omega
            have hext3 : St.extract (q + 1) (q + 1 + 1) = ⟨#[x']⟩ := ext_one HST.out hx'
            have HX' := Lib.hid hx'
            clear hx'
            obtain ⟨d, cur, g, cap, rfl, rfl, hc0, hf0, hlen, hcap, hglt, hdq⟩ := HW.out.last
            have hdl : d.length ≤ 204800000 := by omega
            have hcl2 : cur.length ≤ 204800000 := by omega
            unfold wv at hc0
            have hcl : ({ data := cur.toArray } : ByteArray).size = cur.length := by simp [ByteArray.size]
            have hf1 := hf0 d.length
            clear hf0
            go_wp2_with fail
            all_goals
              rw [wv_snoc]
              refine ⟨⟨q + 2, _, d ++ [cur ++ [x']], false, rfl, rfl, by go_num, by omega, Lib.hid (HW.out.char (Or.inr ⟨rfl, HX.out, HX'.out, rfl⟩))⟩, ?_⟩
              simp [intOf]; omega
        · have hqT : q = T.length := by omega
          have hw := HW.out
          rw [hqT] at hw
          obtain ⟨hL, hb⟩ := hw.done
          subst hb
          rw [hL] at hw
          obtain ⟨wz, hwz⟩ : ∃ x, x = wr := ⟨_, rfl⟩
          subst hwz
          obtain ⟨g, cap, rfl, hglt, hgc⟩ := hw.end_ HN.out
          have HGC := Lib.hid hgc
          have HBZ := Lib.hid (HB3.out.trans (hw.below.mono HB3.out.size))
          have hqS : q = St.size := by have := HSL.out; omega
          clear hw hgc hL HW HRUN HTL hlt2 hqT hsq
          subst hqS
          go_wp2_with fail
          go_loopw [11] (fun i wy => ∃ j : Nat, j ≤ n ∧ i = .int .i64 j ∧ Hid (Below wz.heap.size wz wy)) (fun i _ => n - (intOf i).toNat)
          case atStart => exact ⟨0, Nat.zero_le _, rfl, Lib.hid (Below.refl _ _)⟩
          case round =>
            obtain ⟨j, hj, rfl, HBY⟩ := hrel
            by_cases hlt4 : j < n
            · obtain ⟨s, hs⟩ : ∃ s, ss[j]? = some s := ⟨_, List.getElem?_eq_getElem (by rw [← HN.out]; exact hlt4)⟩
              obtain ⟨ad, rfl, hadb, hrow⟩ := HR.out (by intro e; rw [List.map_eq_nil_iff] at e; rw [e] at hs; simp at hs)
              have e1 : wr.cell? (ad.add j) = some (.string s) := (HBY.out.cell (by rw [block_of_add]; have := HBZ.out.size; omega)).trans ((HBZ.out.cell (by rw [block_of_add]; exact hadb)).trans (hrow j _ (by simp [hs])))
              have e2 : wr.cell? ⟨g, j, none⟩ = some (.string s) := (HBY.out.cell hglt).trans (HGC.out j s hs)
              clear hrow hs
              go_wp2_with fail
              go_region_held3 (fun w' => w'.cell? (ad.add j) = some (.string s) ∧ w'.cell? ⟨g, j, none⟩ = some (.string s)) (go_keep) (fail)
              go_wp2_with fail
              refine ⟨⟨j + 1, by omega, by go_num, Lib.hid HBY.out.drew⟩, ?_⟩
              simp [intOf]; omega
            · go_wp2_with fail
              go_ret
              exact ⟨rfl, HBZ.out.trans (HBY.out.mono HBZ.out.size)⟩
end Go.Proofs.YtpigccnlembfdaaGreatDoor
