/- The walk of encodeString over a limited writer, at a right text that fits. Conditions: as the theorem states. -/
import Derived.Test.YtpigccnlembfdaaGreatDoorPvH
import Derived.Test.YtpigccnlembfdaaGreatDoorPvI
import Derived.Deep.CutRange
namespace Go.Proofs.YtpigccnlembfdaaGreatDoor
open Go.RowKit Go.Deep

/-- What is asked of utf8.DecodeRuneInString. -/
def DecodeSaid (Tabs : World → Prop) : Prop := ∀ (s : ByteArray) (w : World), Tabs w →
  Calls Tryz.prog 86 #[.string s] w fun e w' => e = .returned (.tuple #[.int .i32 (Lib.decodeGo s).1, .int .i64 (Lib.decodeGo s).2]) ∧ Below w.heap.size w w'
/-- The tables lie in blocks below N. -/
def TabsKeep (Tabs : World → Prop) (N : Nat) : Prop := ∀ (w w' : World) (B : Nat), N ≤ B → Tabs w → Below B w w' → Tabs w'
theorem StL.drew {w : World} {B b g E : Nat} {bs : List UInt8} (h : StL w B b g E bs) : StL w.drew B b g E bs := by
  obtain ⟨r, hE⟩ := h.enc
  exact ⟨h.lim.drew, ⟨r, hE.1, hE.2⟩, h.lb, h.lg, h.lE, h.le, h.neb, h.neg⟩
theorem StL.grow {w w' : World} {B b g E : Nat} {bs : List UInt8} (h : StL w B b g E bs) (hb : Below w.heap.size w w') : StL w' B b g E bs := by
  obtain ⟨r, hE⟩ := h.enc
  exact ⟨h.lim.keep (grown_of_below hb none) (by simp) (by simp), ⟨r, hE.below hb⟩, h.lb, h.lg, h.lE, Nat.le_trans h.le hb.size, h.neb, h.neg⟩
theorem and15 : ∀ x : Fin 256, bits .and .u8 ((x.val : Nat) : Int) 15 = ((x.val % 16 : Nat) : Int) := by decide +kernel
theorem hex_get (n : Nat) (hn : n < 16) (h : n < (⟨#[48, 49, 50, 51, 52, 53, 54, 55, 56, 57, 97, 98, 99, 100, 101, 102]⟩ : ByteArray).size) :
    (⟨#[48, 49, 50, 51, 52, 53, 54, 55, 56, 57, 97, 98, 99, 100, 101, 102]⟩ : ByteArray)[n]'h = hexd n := by
  have : n = 0 ∨ n = 1 ∨ n = 2 ∨ n = 3 ∨ n = 4 ∨ n = 5 ∨ n = 6 ∨ n = 7 ∨ n = 8 ∨ n = 9 ∨ n = 10 ∨ n = 11 ∨ n = 12 ∨ n = 13 ∨ n = 14 ∨ n = 15 := by omega
  rcases this with rfl | rfl | rfl | rfl | rfl | rfl | rfl | rfl | rfl | rfl | rfl | rfl | rfl | rfl | rfl | rfl <;> rfl
set_option maxRecDepth 100000 in
set_option maxHeartbeats 16000000 in
theorem encStr_any {Tabs : World → Prop} (hD : DecodeSaid Tabs) {N : Nat} (hTk : TabsKeep Tabs N) (w : World) (B b g E : Nat) (bs : List UInt8) (s : ByteArray) (h : StL w B b g E bs) (hNB : N ≤ B) (hT : Tabs w)
    (hv : Lib.validD s.data.toList = true) (hl : bs.length + (34 :: (jqs s.data.toList ++ [34])).length < 32) :
    Calls Tryz.prog 68 #[.pointer (some ⟨E, 0, none⟩), .string s] w (EncLPost B b g E bs (34 :: (jqs s.data.toList ++ [34])) w) := by
  simp only [List.length_cons, List.length_append, List.length_nil] at hl
  have hsz : s.size = s.data.toList.length := Lib.size_eq s
  have hs30 : s.size ≤ 30 := by have := jqs_ge s.data.toList; omega
  obtain ⟨r0, hE⟩ := h.enc
  have eE := hE.cell0
  have hltE := hE.lt
  have HWB : Hid (Calls Tryz.prog 191 #[.pointer (some ⟨b, 0, none⟩), .int .u8 34] w (fun e w' => e = .returned .nilIface ∧ LimPost B b g (bs ++ [34]) w w')) := Lib.hid (limByte_any w B b g bs 34 h.lim (by omega) h.lb h.lg h.le)
  have HST := Lib.hid h
  have HV := Lib.hid hv
  have HSZ := Lib.hid hsz
  have HTB : Hid (∀ w', KB B b g E w w' → Tabs w') := Lib.hid fun w' hb => hTk w w' B hNB hT hb.below
  have HDE := Lib.hid hD
  have HLEN : Hid (∀ a k : Nat, a ≤ k → k ≤ s.size → Plain s.data.toList a k → (bs ++ 34 :: jqs (s.data.toList.take a)).length + (mid s.data.toList a k).length < 32) := Lib.hid fun a k ha hk hp => by
    have h1 := hp.app ha
    have h2 := jqs_le s.data.toList k
    rw [h1, List.length_append] at h2
    simp only [List.length_append, List.length_cons]; omega
  have HLE1 : Hid (∀ (k : Nat) (c : UInt8), s.data.toList[k]? = some c → (bs ++ 34 :: jqs (s.data.toList.take k)).length + (jq1 c).length < 32) := Lib.hid fun k c hc => by
    have h1 := jqs_take s.data.toList k c hc
    have h2 := jqs_le s.data.toList (k + 1)
    rw [h1, List.length_append] at h2
    simp only [List.length_append, List.length_cons]; omega
  have HL := Lib.hid hl
  clear h hv hsz hNB hT hTk hD hE hl
  go_enter Tryz.func68, Tryz.ntmps68
  go_wp2_with fail
  refine HWB.out.mono ?_
  rintro e w1 ⟨rfl, hp⟩
  have HF := Lib.hid (HST.out.write hp)
  clear hp eE hltE
  go_wp2_with fail
  go_loopw [4, 5] (fun sv iv wr => ∃ a k : Nat, a ≤ k ∧ k ≤ s.size ∧ sv = .int .i64 a ∧ iv = .int .i64 k ∧ Hid (StL wr B b g E (bs ++ 34 :: jqs (s.data.toList.take a)) ∧ KB B b g E w wr ∧ Lib.validD (s.data.toList.drop k) = true ∧ Plain s.data.toList a k)) (fun _ iv _ => s.size - (intOf iv).toNat)
  case atStart => exact ⟨0, 0, Nat.le_refl _, Nat.zero_le _, rfl, rfl, Lib.hid ⟨by simpa [jqs] using HF.out.1, HF.out.2, by simpa using HV.out, Plain.nil _ _⟩⟩
  case round =>
    obtain ⟨a, k, hak, hk, rfl, rfl, HR⟩ := hrel
    obtain ⟨rr, hEr⟩ := HR.out.1.enc
    have eE := hEr.cell0
    have hltE := hEr.lt
    clear hEr
    by_cases hlt : k < s.size
    · obtain ⟨c, hc, hsq⟩ := byte_at hlt
      have HCC := Lib.hid hc
      clear hc
      by_cases h34 : c = 34
      · subst h34
        -- [[
        as_aux_lemma =>
          have HNX := Lib.hid (valid_next s k 34 HCC.out (by decide) HR.out.2.2.1)
          have HJ := Lib.hid (jqs_take s.data.toList k 34 HCC.out)
          go_upto_if 41 with fail
          go_cut [] from 14 to 169 (fun wx => Hid (StL wx B b g E (bs ++ 34 :: jqs (s.data.toList.take k)) ∧ KB B b g E w wx))
          case first =>
            by_cases hf : a < k
            · have hfz : (a : Int) < (k : Int) := by omega
              have hx : s.extract a k = strL (mid s.data.toList a k) := mid_extract s a k
              have HWR := Lib.hid (limStr_any wr.drew B b g _ (mid s.data.toList a k) HR.out.1.lim.drew (HLEN.out a k hak hk HR.out.2.2.2) HR.out.1.lb HR.out.1.lg HR.out.1.le)
              go_wp2_with fail
              refine wp_region_S (Sf := Till 10 (fun W => W.cell? ⟨E, 0, none⟩ = some (.iface 86 (.pointer (some ⟨b, 0, none⟩)))) (fun _ => True)) (by kernel_rfl) ?_
              have eW : wr.drew.cell? ⟨E, 0, none⟩ = some (.iface 86 (.pointer (some ⟨b, 0, none⟩))) := eE
              clear eE
              refine till_take_R (i := 0) 42 (.pointer (some ⟨E, 0, none⟩)) rfl rfl (by kernel_rfl) (by kernel_rfl) (by kernel_rfl) (by decide) (fun _ _ _ h => h) (Or.inl ⟨by rfl, ?_⟩) ⟨eW, fun _ => trivial⟩ ?_
              · intro W hW; go_simp
              simp only [Act.put, List.setIfInBounds_toArray, List.set_cons_zero, List.set_cons_succ]
              refine till_take_R (i := 1) 43 (.pointer (some ⟨E, 0, none⟩)) rfl rfl (by kernel_rfl) (by kernel_rfl) (by kernel_rfl) (by decide) (fun _ _ _ h => h) (Or.inl ⟨by rfl, ?_⟩) ⟨eW, fun _ => trivial⟩ ?_
              · intro W hW; go_simp
              simp only [Act.put, List.setIfInBounds_toArray, List.set_cons_zero, List.set_cons_succ]
              refine till_take_R (i := 2) 44 (.pointer (some ⟨E, 0, none⟩)) rfl rfl (by kernel_rfl) (by kernel_rfl) (by kernel_rfl) (by decide) (fun _ _ _ h => h) (Or.inl ⟨by rfl, ?_⟩) ⟨eW, fun _ => trivial⟩ ?_
              · intro W hW; go_simp
              simp only [Act.put, List.setIfInBounds_toArray, List.set_cons_zero, List.set_cons_succ]
              refine till_take_R (i := 3) 45 (.iface 86 (.pointer (some ⟨b, 0, none⟩))) rfl rfl (by kernel_rfl) (by kernel_rfl) (by kernel_rfl) (by decide) (fun _ _ _ h => h) (Or.inl ⟨by rfl, ?_⟩) ⟨eW, fun _ => trivial⟩ ?_
              · intro W hW; go_simp
              simp only [Act.put, List.setIfInBounds_toArray, List.set_cons_zero, List.set_cons_succ]
              refine till_take_R (i := 4) 46 (.string s) rfl rfl (by kernel_rfl) (by kernel_rfl) (by kernel_rfl) (by decide) (fun _ _ _ h => h) (Or.inl ⟨by rfl, ?_⟩) ⟨eW, fun _ => trivial⟩ ?_
              · intro W hW; go_simp
              simp only [Act.put, List.setIfInBounds_toArray, List.set_cons_zero, List.set_cons_succ]
              refine till_take_R (i := 5) 47 (.int .i64 a) rfl rfl (by kernel_rfl) (by kernel_rfl) (by kernel_rfl) (by decide) (fun _ _ _ h => h) (Or.inl ⟨by rfl, ?_⟩) ⟨eW, fun _ => trivial⟩ ?_
              · intro W hW; go_simp
              simp only [Act.put, List.setIfInBounds_toArray, List.set_cons_zero, List.set_cons_succ]
              refine till_take_R (i := 6) 48 (.int .i64 k) rfl rfl (by kernel_rfl) (by kernel_rfl) (by kernel_rfl) (by decide) (fun _ _ _ h => h) (Or.inl ⟨by rfl, ?_⟩) ⟨eW, fun _ => trivial⟩ ?_
              · intro W hW; go_simp
              simp only [Act.put, List.setIfInBounds_toArray, List.set_cons_zero, List.set_cons_succ]
              refine till_take_R (i := 7) 49 (.string (strL (mid s.data.toList a k))) rfl rfl (by kernel_rfl) (by kernel_rfl) (by kernel_rfl) (by decide) (fun _ _ _ h => h) (Or.inl ⟨by rfl, ?_⟩) ⟨eW, fun _ => trivial⟩ ?_
              · intro W hW; go_simp
              simp only [Act.put, List.setIfInBounds_toArray, List.set_cons_zero, List.set_cons_succ]
              refine till_take_R (i := 8) 50 (.iface 86 (.pointer (some ⟨b, 0, none⟩))) rfl rfl (by kernel_rfl) (by kernel_rfl) (by kernel_rfl) (by decide) (fun _ _ _ h => h) (Or.inl ⟨by rfl, ?_⟩) ⟨eW, fun _ => trivial⟩ ?_
              · intro W hW; go_simp
              simp only [Act.put, List.setIfInBounds_toArray, List.set_cons_zero, List.set_cons_succ]
              refine till_take_R (i := 9) 51 (.iface 86 (.pointer (some ⟨b, 0, none⟩))) rfl rfl (by kernel_rfl) (by kernel_rfl) (by kernel_rfl) (by decide) (fun _ _ _ h => h) (Or.inl ⟨by rfl, ?_⟩) ⟨eW, fun _ => trivial⟩ ?_
              · intro W hW; go_simp
              simp only [Act.put, List.setIfInBounds_toArray, List.set_cons_zero, List.set_cons_succ]
              refine anyS_ready (rs := [10]) (by kernel_rfl) (by simp) ?_
              refine AllS.cons rfl (fun K hK => ?_) AllS.nil
              go_simp
              refine HWR.out.mono ?_
              rintro e w4 ⟨rfl, hp⟩
              have HP := Lib.hid ((HR.out.1.drew).write hp)
              have eX : w4.cell? ⟨E, 0, none⟩ = some (.iface 86 (.pointer (some ⟨b, 0, none⟩))) := by obtain ⟨r4, h4⟩ := HP.out.1.enc; exact h4.cell0
              clear hp
              refine hK.out _ _ ⟨eX, fun _ => trivial⟩ ?_
              clear hK K eX eW
              refine anyS_done (by kernel_rfl) ?_ _
              go_wp2_with fail
              go_meet
              refine Lib.hid ⟨?_, HR.out.2.1.drew.trans HP.out.2⟩
              have := HP.out.1
              rw [List.append_assoc, List.cons_append, ← HR.out.2.2.2.app hak] at this
              exact this
            · have hfz : ¬ (a : Int) < (k : Int) := by omega
              go_wp2_with fail
              go_meet
              obtain rfl : a = k := by omega
              exact Lib.hid ⟨HR.out.1, HR.out.2.1⟩
          case rest =>
            obtain ⟨rc, hEc⟩ := hcut.out.1.enc
            have eE := hEc.cell0
            have hltc := hEc.lt
            have HCU := hcut
            clear hcut hEc
            have HWS := Lib.hid (limStr_any wc B b g _ [92, 34] HCU.out.1.lim (HLE1.out k 34 HCC.out) HCU.out.1.lb HCU.out.1.lg HCU.out.1.le)
            go_wp2_with fail
            refine HWS.out.mono ?_
            rintro e w5 ⟨rfl, hp⟩
            have HP := Lib.hid (HCU.out.1.write hp)
            clear hp
            go_wp2_with fail
            refine ⟨⟨k + 1, k + 1, Nat.le_refl _, by omega, by simp, by simp, Lib.hid ⟨?_, HCU.out.2.trans HP.out.2, HNX.out, Plain.nil _ _⟩⟩, by simp [intOf]; omega⟩
            have := HP.out.1
            rw [List.append_assoc, List.cons_append] at this
            rw [HJ.out]
            exact this
        -- ]]
      by_cases h92 : c = 92
      · subst h92
        -- [[
        as_aux_lemma =>
          have HNX := Lib.hid (valid_next s k 92 HCC.out (by decide) HR.out.2.2.1)
          have HJ := Lib.hid (jqs_take s.data.toList k 92 HCC.out)
          go_upto_if 41 with fail
          go_cut [] from 14 to 169 (fun wx => Hid (StL wx B b g E (bs ++ 34 :: jqs (s.data.toList.take k)) ∧ KB B b g E w wx))
          case first =>
            by_cases hf : a < k
            · have hfz : (a : Int) < (k : Int) := by omega
              have hx : s.extract a k = strL (mid s.data.toList a k) := mid_extract s a k
              have HWR := Lib.hid (limStr_any wr.drew B b g _ (mid s.data.toList a k) HR.out.1.lim.drew (HLEN.out a k hak hk HR.out.2.2.2) HR.out.1.lb HR.out.1.lg HR.out.1.le)
              go_wp2_with fail
              refine wp_region_S (Sf := Till 10 (fun W => W.cell? ⟨E, 0, none⟩ = some (.iface 86 (.pointer (some ⟨b, 0, none⟩)))) (fun _ => True)) (by kernel_rfl) ?_
              have eW : wr.drew.cell? ⟨E, 0, none⟩ = some (.iface 86 (.pointer (some ⟨b, 0, none⟩))) := eE
              clear eE
              refine till_take_R (i := 0) 42 (.pointer (some ⟨E, 0, none⟩)) rfl rfl (by kernel_rfl) (by kernel_rfl) (by kernel_rfl) (by decide) (fun _ _ _ h => h) (Or.inl ⟨by rfl, ?_⟩) ⟨eW, fun _ => trivial⟩ ?_
              · intro W hW; go_simp
              simp only [Act.put, List.setIfInBounds_toArray, List.set_cons_zero, List.set_cons_succ]
              refine till_take_R (i := 1) 43 (.pointer (some ⟨E, 0, none⟩)) rfl rfl (by kernel_rfl) (by kernel_rfl) (by kernel_rfl) (by decide) (fun _ _ _ h => h) (Or.inl ⟨by rfl, ?_⟩) ⟨eW, fun _ => trivial⟩ ?_
              · intro W hW; go_simp
              simp only [Act.put, List.setIfInBounds_toArray, List.set_cons_zero, List.set_cons_succ]
              refine till_take_R (i := 2) 44 (.pointer (some ⟨E, 0, none⟩)) rfl rfl (by kernel_rfl) (by kernel_rfl) (by kernel_rfl) (by decide) (fun _ _ _ h => h) (Or.inl ⟨by rfl, ?_⟩) ⟨eW, fun _ => trivial⟩ ?_
              · intro W hW; go_simp
              simp only [Act.put, List.setIfInBounds_toArray, List.set_cons_zero, List.set_cons_succ]
              refine till_take_R (i := 3) 45 (.iface 86 (.pointer (some ⟨b, 0, none⟩))) rfl rfl (by kernel_rfl) (by kernel_rfl) (by kernel_rfl) (by decide) (fun _ _ _ h => h) (Or.inl ⟨by rfl, ?_⟩) ⟨eW, fun _ => trivial⟩ ?_
              · intro W hW; go_simp
              simp only [Act.put, List.setIfInBounds_toArray, List.set_cons_zero, List.set_cons_succ]
              refine till_take_R (i := 4) 46 (.string s) rfl rfl (by kernel_rfl) (by kernel_rfl) (by kernel_rfl) (by decide) (fun _ _ _ h => h) (Or.inl ⟨by rfl, ?_⟩) ⟨eW, fun _ => trivial⟩ ?_
              · intro W hW; go_simp
              simp only [Act.put, List.setIfInBounds_toArray, List.set_cons_zero, List.set_cons_succ]
              refine till_take_R (i := 5) 47 (.int .i64 a) rfl rfl (by kernel_rfl) (by kernel_rfl) (by kernel_rfl) (by decide) (fun _ _ _ h => h) (Or.inl ⟨by rfl, ?_⟩) ⟨eW, fun _ => trivial⟩ ?_
              · intro W hW; go_simp
              simp only [Act.put, List.setIfInBounds_toArray, List.set_cons_zero, List.set_cons_succ]
              refine till_take_R (i := 6) 48 (.int .i64 k) rfl rfl (by kernel_rfl) (by kernel_rfl) (by kernel_rfl) (by decide) (fun _ _ _ h => h) (Or.inl ⟨by rfl, ?_⟩) ⟨eW, fun _ => trivial⟩ ?_
              · intro W hW; go_simp
              simp only [Act.put, List.setIfInBounds_toArray, List.set_cons_zero, List.set_cons_succ]
              refine till_take_R (i := 7) 49 (.string (strL (mid s.data.toList a k))) rfl rfl (by kernel_rfl) (by kernel_rfl) (by kernel_rfl) (by decide) (fun _ _ _ h => h) (Or.inl ⟨by rfl, ?_⟩) ⟨eW, fun _ => trivial⟩ ?_
              · intro W hW; go_simp
              simp only [Act.put, List.setIfInBounds_toArray, List.set_cons_zero, List.set_cons_succ]
              refine till_take_R (i := 8) 50 (.iface 86 (.pointer (some ⟨b, 0, none⟩))) rfl rfl (by kernel_rfl) (by kernel_rfl) (by kernel_rfl) (by decide) (fun _ _ _ h => h) (Or.inl ⟨by rfl, ?_⟩) ⟨eW, fun _ => trivial⟩ ?_
              · intro W hW; go_simp
              simp only [Act.put, List.setIfInBounds_toArray, List.set_cons_zero, List.set_cons_succ]
              refine till_take_R (i := 9) 51 (.iface 86 (.pointer (some ⟨b, 0, none⟩))) rfl rfl (by kernel_rfl) (by kernel_rfl) (by kernel_rfl) (by decide) (fun _ _ _ h => h) (Or.inl ⟨by rfl, ?_⟩) ⟨eW, fun _ => trivial⟩ ?_
              · intro W hW; go_simp
              simp only [Act.put, List.setIfInBounds_toArray, List.set_cons_zero, List.set_cons_succ]
              refine anyS_ready (rs := [10]) (by kernel_rfl) (by simp) ?_
              refine AllS.cons rfl (fun K hK => ?_) AllS.nil
              go_simp
              refine HWR.out.mono ?_
              rintro e w4 ⟨rfl, hp⟩
              have HP := Lib.hid ((HR.out.1.drew).write hp)
              have eX : w4.cell? ⟨E, 0, none⟩ = some (.iface 86 (.pointer (some ⟨b, 0, none⟩))) := by obtain ⟨r4, h4⟩ := HP.out.1.enc; exact h4.cell0
              clear hp
              refine hK.out _ _ ⟨eX, fun _ => trivial⟩ ?_
              clear hK K eX eW
              refine anyS_done (by kernel_rfl) ?_ _
              go_wp2_with fail
              go_meet
              refine Lib.hid ⟨?_, HR.out.2.1.drew.trans HP.out.2⟩
              have := HP.out.1
              rw [List.append_assoc, List.cons_append, ← HR.out.2.2.2.app hak] at this
              exact this
            · have hfz : ¬ (a : Int) < (k : Int) := by omega
              go_wp2_with fail
              go_meet
              obtain rfl : a = k := by omega
              exact Lib.hid ⟨HR.out.1, HR.out.2.1⟩
          case rest =>
            obtain ⟨rc, hEc⟩ := hcut.out.1.enc
            have eE := hEc.cell0
            have hltc := hEc.lt
            have HCU := hcut
            clear hcut hEc
            have HWS := Lib.hid (limStr_any wc B b g _ [92, 92] HCU.out.1.lim (HLE1.out k 92 HCC.out) HCU.out.1.lb HCU.out.1.lg HCU.out.1.le)
            go_wp2_with fail
            refine HWS.out.mono ?_
            rintro e w5 ⟨rfl, hp⟩
            have HP := Lib.hid (HCU.out.1.write hp)
            clear hp
            go_wp2_with fail
            refine ⟨⟨k + 1, k + 1, Nat.le_refl _, by omega, by simp, by simp, Lib.hid ⟨?_, HCU.out.2.trans HP.out.2, HNX.out, Plain.nil _ _⟩⟩, by simp [intOf]; omega⟩
            have := HP.out.1
            rw [List.append_assoc, List.cons_append] at this
            rw [HJ.out]
            exact this
        -- ]]
      by_cases h8 : c = 8
      · subst h8
        -- [[
        as_aux_lemma =>
          have HNX := Lib.hid (valid_next s k 8 HCC.out (by decide) HR.out.2.2.1)
          have HJ := Lib.hid (jqs_take s.data.toList k 8 HCC.out)
          go_upto_if 41 with fail
          go_cut [] from 14 to 169 (fun wx => Hid (StL wx B b g E (bs ++ 34 :: jqs (s.data.toList.take k)) ∧ KB B b g E w wx))
          case first =>
            by_cases hf : a < k
            · have hfz : (a : Int) < (k : Int) := by omega
              have hx : s.extract a k = strL (mid s.data.toList a k) := mid_extract s a k
              have HWR := Lib.hid (limStr_any wr.drew B b g _ (mid s.data.toList a k) HR.out.1.lim.drew (HLEN.out a k hak hk HR.out.2.2.2) HR.out.1.lb HR.out.1.lg HR.out.1.le)
              go_wp2_with fail
              refine wp_region_S (Sf := Till 10 (fun W => W.cell? ⟨E, 0, none⟩ = some (.iface 86 (.pointer (some ⟨b, 0, none⟩)))) (fun _ => True)) (by kernel_rfl) ?_
              have eW : wr.drew.cell? ⟨E, 0, none⟩ = some (.iface 86 (.pointer (some ⟨b, 0, none⟩))) := eE
              clear eE
              refine till_take_R (i := 0) 42 (.pointer (some ⟨E, 0, none⟩)) rfl rfl (by kernel_rfl) (by kernel_rfl) (by kernel_rfl) (by decide) (fun _ _ _ h => h) (Or.inl ⟨by rfl, ?_⟩) ⟨eW, fun _ => trivial⟩ ?_
              · intro W hW; go_simp
              simp only [Act.put, List.setIfInBounds_toArray, List.set_cons_zero, List.set_cons_succ]
              refine till_take_R (i := 1) 43 (.pointer (some ⟨E, 0, none⟩)) rfl rfl (by kernel_rfl) (by kernel_rfl) (by kernel_rfl) (by decide) (fun _ _ _ h => h) (Or.inl ⟨by rfl, ?_⟩) ⟨eW, fun _ => trivial⟩ ?_
              · intro W hW; go_simp
              simp only [Act.put, List.setIfInBounds_toArray, List.set_cons_zero, List.set_cons_succ]
              refine till_take_R (i := 2) 44 (.pointer (some ⟨E, 0, none⟩)) rfl rfl (by kernel_rfl) (by kernel_rfl) (by kernel_rfl) (by decide) (fun _ _ _ h => h) (Or.inl ⟨by rfl, ?_⟩) ⟨eW, fun _ => trivial⟩ ?_
              · intro W hW; go_simp
              simp only [Act.put, List.setIfInBounds_toArray, List.set_cons_zero, List.set_cons_succ]
              refine till_take_R (i := 3) 45 (.iface 86 (.pointer (some ⟨b, 0, none⟩))) rfl rfl (by kernel_rfl) (by kernel_rfl) (by kernel_rfl) (by decide) (fun _ _ _ h => h) (Or.inl ⟨by rfl, ?_⟩) ⟨eW, fun _ => trivial⟩ ?_
              · intro W hW; go_simp
              simp only [Act.put, List.setIfInBounds_toArray, List.set_cons_zero, List.set_cons_succ]
              refine till_take_R (i := 4) 46 (.string s) rfl rfl (by kernel_rfl) (by kernel_rfl) (by kernel_rfl) (by decide) (fun _ _ _ h => h) (Or.inl ⟨by rfl, ?_⟩) ⟨eW, fun _ => trivial⟩ ?_
              · intro W hW; go_simp
              simp only [Act.put, List.setIfInBounds_toArray, List.set_cons_zero, List.set_cons_succ]
              refine till_take_R (i := 5) 47 (.int .i64 a) rfl rfl (by kernel_rfl) (by kernel_rfl) (by kernel_rfl) (by decide) (fun _ _ _ h => h) (Or.inl ⟨by rfl, ?_⟩) ⟨eW, fun _ => trivial⟩ ?_
              · intro W hW; go_simp
              simp only [Act.put, List.setIfInBounds_toArray, List.set_cons_zero, List.set_cons_succ]
              refine till_take_R (i := 6) 48 (.int .i64 k) rfl rfl (by kernel_rfl) (by kernel_rfl) (by kernel_rfl) (by decide) (fun _ _ _ h => h) (Or.inl ⟨by rfl, ?_⟩) ⟨eW, fun _ => trivial⟩ ?_
              · intro W hW; go_simp
              simp only [Act.put, List.setIfInBounds_toArray, List.set_cons_zero, List.set_cons_succ]
              refine till_take_R (i := 7) 49 (.string (strL (mid s.data.toList a k))) rfl rfl (by kernel_rfl) (by kernel_rfl) (by kernel_rfl) (by decide) (fun _ _ _ h => h) (Or.inl ⟨by rfl, ?_⟩) ⟨eW, fun _ => trivial⟩ ?_
              · intro W hW; go_simp
              simp only [Act.put, List.setIfInBounds_toArray, List.set_cons_zero, List.set_cons_succ]
              refine till_take_R (i := 8) 50 (.iface 86 (.pointer (some ⟨b, 0, none⟩))) rfl rfl (by kernel_rfl) (by kernel_rfl) (by kernel_rfl) (by decide) (fun _ _ _ h => h) (Or.inl ⟨by rfl, ?_⟩) ⟨eW, fun _ => trivial⟩ ?_
              · intro W hW; go_simp
              simp only [Act.put, List.setIfInBounds_toArray, List.set_cons_zero, List.set_cons_succ]
              refine till_take_R (i := 9) 51 (.iface 86 (.pointer (some ⟨b, 0, none⟩))) rfl rfl (by kernel_rfl) (by kernel_rfl) (by kernel_rfl) (by decide) (fun _ _ _ h => h) (Or.inl ⟨by rfl, ?_⟩) ⟨eW, fun _ => trivial⟩ ?_
              · intro W hW; go_simp
              simp only [Act.put, List.setIfInBounds_toArray, List.set_cons_zero, List.set_cons_succ]
              refine anyS_ready (rs := [10]) (by kernel_rfl) (by simp) ?_
              refine AllS.cons rfl (fun K hK => ?_) AllS.nil
              go_simp
              refine HWR.out.mono ?_
              rintro e w4 ⟨rfl, hp⟩
              have HP := Lib.hid ((HR.out.1.drew).write hp)
              have eX : w4.cell? ⟨E, 0, none⟩ = some (.iface 86 (.pointer (some ⟨b, 0, none⟩))) := by obtain ⟨r4, h4⟩ := HP.out.1.enc; exact h4.cell0
              clear hp
              refine hK.out _ _ ⟨eX, fun _ => trivial⟩ ?_
              clear hK K eX eW
              refine anyS_done (by kernel_rfl) ?_ _
              go_wp2_with fail
              go_meet
              refine Lib.hid ⟨?_, HR.out.2.1.drew.trans HP.out.2⟩
              have := HP.out.1
              rw [List.append_assoc, List.cons_append, ← HR.out.2.2.2.app hak] at this
              exact this
            · have hfz : ¬ (a : Int) < (k : Int) := by omega
              go_wp2_with fail
              go_meet
              obtain rfl : a = k := by omega
              exact Lib.hid ⟨HR.out.1, HR.out.2.1⟩
          case rest =>
            obtain ⟨rc, hEc⟩ := hcut.out.1.enc
            have eE := hEc.cell0
            have hltc := hEc.lt
            have HCU := hcut
            clear hcut hEc
            have HWS := Lib.hid (limStr_any wc B b g _ [92, 98] HCU.out.1.lim (HLE1.out k 8 HCC.out) HCU.out.1.lb HCU.out.1.lg HCU.out.1.le)
            go_wp2_with fail
            refine HWS.out.mono ?_
            rintro e w5 ⟨rfl, hp⟩
            have HP := Lib.hid (HCU.out.1.write hp)
            clear hp
            go_wp2_with fail
            refine ⟨⟨k + 1, k + 1, Nat.le_refl _, by omega, by simp, by simp, Lib.hid ⟨?_, HCU.out.2.trans HP.out.2, HNX.out, Plain.nil _ _⟩⟩, by simp [intOf]; omega⟩
            have := HP.out.1
            rw [List.append_assoc, List.cons_append] at this
            rw [HJ.out]
            exact this
        -- ]]
      by_cases h12 : c = 12
      · subst h12
        -- [[
        as_aux_lemma =>
          have HNX := Lib.hid (valid_next s k 12 HCC.out (by decide) HR.out.2.2.1)
          have HJ := Lib.hid (jqs_take s.data.toList k 12 HCC.out)
          go_upto_if 41 with fail
          go_cut [] from 14 to 169 (fun wx => Hid (StL wx B b g E (bs ++ 34 :: jqs (s.data.toList.take k)) ∧ KB B b g E w wx))
          case first =>
            by_cases hf : a < k
            · have hfz : (a : Int) < (k : Int) := by omega
              have hx : s.extract a k = strL (mid s.data.toList a k) := mid_extract s a k
              have HWR := Lib.hid (limStr_any wr.drew B b g _ (mid s.data.toList a k) HR.out.1.lim.drew (HLEN.out a k hak hk HR.out.2.2.2) HR.out.1.lb HR.out.1.lg HR.out.1.le)
              go_wp2_with fail
              refine wp_region_S (Sf := Till 10 (fun W => W.cell? ⟨E, 0, none⟩ = some (.iface 86 (.pointer (some ⟨b, 0, none⟩)))) (fun _ => True)) (by kernel_rfl) ?_
              have eW : wr.drew.cell? ⟨E, 0, none⟩ = some (.iface 86 (.pointer (some ⟨b, 0, none⟩))) := eE
              clear eE
              refine till_take_R (i := 0) 42 (.pointer (some ⟨E, 0, none⟩)) rfl rfl (by kernel_rfl) (by kernel_rfl) (by kernel_rfl) (by decide) (fun _ _ _ h => h) (Or.inl ⟨by rfl, ?_⟩) ⟨eW, fun _ => trivial⟩ ?_
              · intro W hW; go_simp
              simp only [Act.put, List.setIfInBounds_toArray, List.set_cons_zero, List.set_cons_succ]
              refine till_take_R (i := 1) 43 (.pointer (some ⟨E, 0, none⟩)) rfl rfl (by kernel_rfl) (by kernel_rfl) (by kernel_rfl) (by decide) (fun _ _ _ h => h) (Or.inl ⟨by rfl, ?_⟩) ⟨eW, fun _ => trivial⟩ ?_
              · intro W hW; go_simp
              simp only [Act.put, List.setIfInBounds_toArray, List.set_cons_zero, List.set_cons_succ]
              refine till_take_R (i := 2) 44 (.pointer (some ⟨E, 0, none⟩)) rfl rfl (by kernel_rfl) (by kernel_rfl) (by kernel_rfl) (by decide) (fun _ _ _ h => h) (Or.inl ⟨by rfl, ?_⟩) ⟨eW, fun _ => trivial⟩ ?_
              · intro W hW; go_simp
              simp only [Act.put, List.setIfInBounds_toArray, List.set_cons_zero, List.set_cons_succ]
              refine till_take_R (i := 3) 45 (.iface 86 (.pointer (some ⟨b, 0, none⟩))) rfl rfl (by kernel_rfl) (by kernel_rfl) (by kernel_rfl) (by decide) (fun _ _ _ h => h) (Or.inl ⟨by rfl, ?_⟩) ⟨eW, fun _ => trivial⟩ ?_
              · intro W hW; go_simp
              simp only [Act.put, List.setIfInBounds_toArray, List.set_cons_zero, List.set_cons_succ]
              refine till_take_R (i := 4) 46 (.string s) rfl rfl (by kernel_rfl) (by kernel_rfl) (by kernel_rfl) (by decide) (fun _ _ _ h => h) (Or.inl ⟨by rfl, ?_⟩) ⟨eW, fun _ => trivial⟩ ?_
              · intro W hW; go_simp
              simp only [Act.put, List.setIfInBounds_toArray, List.set_cons_zero, List.set_cons_succ]
              refine till_take_R (i := 5) 47 (.int .i64 a) rfl rfl (by kernel_rfl) (by kernel_rfl) (by kernel_rfl) (by decide) (fun _ _ _ h => h) (Or.inl ⟨by rfl, ?_⟩) ⟨eW, fun _ => trivial⟩ ?_
              · intro W hW; go_simp
              simp only [Act.put, List.setIfInBounds_toArray, List.set_cons_zero, List.set_cons_succ]
              refine till_take_R (i := 6) 48 (.int .i64 k) rfl rfl (by kernel_rfl) (by kernel_rfl) (by kernel_rfl) (by decide) (fun _ _ _ h => h) (Or.inl ⟨by rfl, ?_⟩) ⟨eW, fun _ => trivial⟩ ?_
              · intro W hW; go_simp
              simp only [Act.put, List.setIfInBounds_toArray, List.set_cons_zero, List.set_cons_succ]
              refine till_take_R (i := 7) 49 (.string (strL (mid s.data.toList a k))) rfl rfl (by kernel_rfl) (by kernel_rfl) (by kernel_rfl) (by decide) (fun _ _ _ h => h) (Or.inl ⟨by rfl, ?_⟩) ⟨eW, fun _ => trivial⟩ ?_
              · intro W hW; go_simp
              simp only [Act.put, List.setIfInBounds_toArray, List.set_cons_zero, List.set_cons_succ]
              refine till_take_R (i := 8) 50 (.iface 86 (.pointer (some ⟨b, 0, none⟩))) rfl rfl (by kernel_rfl) (by kernel_rfl) (by kernel_rfl) (by decide) (fun _ _ _ h => h) (Or.inl ⟨by rfl, ?_⟩) ⟨eW, fun _ => trivial⟩ ?_
              · intro W hW; go_simp
              simp only [Act.put, List.setIfInBounds_toArray, List.set_cons_zero, List.set_cons_succ]
              refine till_take_R (i := 9) 51 (.iface 86 (.pointer (some ⟨b, 0, none⟩))) rfl rfl (by kernel_rfl) (by kernel_rfl) (by kernel_rfl) (by decide) (fun _ _ _ h => h) (Or.inl ⟨by rfl, ?_⟩) ⟨eW, fun _ => trivial⟩ ?_
              · intro W hW; go_simp
              simp only [Act.put, List.setIfInBounds_toArray, List.set_cons_zero, List.set_cons_succ]
              refine anyS_ready (rs := [10]) (by kernel_rfl) (by simp) ?_
              refine AllS.cons rfl (fun K hK => ?_) AllS.nil
              go_simp
              refine HWR.out.mono ?_
              rintro e w4 ⟨rfl, hp⟩
              have HP := Lib.hid ((HR.out.1.drew).write hp)
              have eX : w4.cell? ⟨E, 0, none⟩ = some (.iface 86 (.pointer (some ⟨b, 0, none⟩))) := by obtain ⟨r4, h4⟩ := HP.out.1.enc; exact h4.cell0
              clear hp
              refine hK.out _ _ ⟨eX, fun _ => trivial⟩ ?_
              clear hK K eX eW
              refine anyS_done (by kernel_rfl) ?_ _
              go_wp2_with fail
              go_meet
              refine Lib.hid ⟨?_, HR.out.2.1.drew.trans HP.out.2⟩
              have := HP.out.1
              rw [List.append_assoc, List.cons_append, ← HR.out.2.2.2.app hak] at this
              exact this
            · have hfz : ¬ (a : Int) < (k : Int) := by omega
              go_wp2_with fail
              go_meet
              obtain rfl : a = k := by omega
              exact Lib.hid ⟨HR.out.1, HR.out.2.1⟩
          case rest =>
            obtain ⟨rc, hEc⟩ := hcut.out.1.enc
            have eE := hEc.cell0
            have hltc := hEc.lt
            have HCU := hcut
            clear hcut hEc
            have HWS := Lib.hid (limStr_any wc B b g _ [92, 102] HCU.out.1.lim (HLE1.out k 12 HCC.out) HCU.out.1.lb HCU.out.1.lg HCU.out.1.le)
            go_wp2_with fail
            refine HWS.out.mono ?_
            rintro e w5 ⟨rfl, hp⟩
            have HP := Lib.hid (HCU.out.1.write hp)
            clear hp
            go_wp2_with fail
            refine ⟨⟨k + 1, k + 1, Nat.le_refl _, by omega, by simp, by simp, Lib.hid ⟨?_, HCU.out.2.trans HP.out.2, HNX.out, Plain.nil _ _⟩⟩, by simp [intOf]; omega⟩
            have := HP.out.1
            rw [List.append_assoc, List.cons_append] at this
            rw [HJ.out]
            exact this
        -- ]]
      by_cases h10 : c = 10
      · subst h10
        -- [[
        as_aux_lemma =>
          have HNX := Lib.hid (valid_next s k 10 HCC.out (by decide) HR.out.2.2.1)
          have HJ := Lib.hid (jqs_take s.data.toList k 10 HCC.out)
          go_upto_if 41 with fail
          go_cut [] from 14 to 169 (fun wx => Hid (StL wx B b g E (bs ++ 34 :: jqs (s.data.toList.take k)) ∧ KB B b g E w wx))
          case first =>
            by_cases hf : a < k
            · have hfz : (a : Int) < (k : Int) := by omega
              have hx : s.extract a k = strL (mid s.data.toList a k) := mid_extract s a k
              have HWR := Lib.hid (limStr_any wr.drew B b g _ (mid s.data.toList a k) HR.out.1.lim.drew (HLEN.out a k hak hk HR.out.2.2.2) HR.out.1.lb HR.out.1.lg HR.out.1.le)
              go_wp2_with fail
              refine wp_region_S (Sf := Till 10 (fun W => W.cell? ⟨E, 0, none⟩ = some (.iface 86 (.pointer (some ⟨b, 0, none⟩)))) (fun _ => True)) (by kernel_rfl) ?_
              have eW : wr.drew.cell? ⟨E, 0, none⟩ = some (.iface 86 (.pointer (some ⟨b, 0, none⟩))) := eE
              clear eE
              refine till_take_R (i := 0) 42 (.pointer (some ⟨E, 0, none⟩)) rfl rfl (by kernel_rfl) (by kernel_rfl) (by kernel_rfl) (by decide) (fun _ _ _ h => h) (Or.inl ⟨by rfl, ?_⟩) ⟨eW, fun _ => trivial⟩ ?_
              · intro W hW; go_simp
              simp only [Act.put, List.setIfInBounds_toArray, List.set_cons_zero, List.set_cons_succ]
              refine till_take_R (i := 1) 43 (.pointer (some ⟨E, 0, none⟩)) rfl rfl (by kernel_rfl) (by kernel_rfl) (by kernel_rfl) (by decide) (fun _ _ _ h => h) (Or.inl ⟨by rfl, ?_⟩) ⟨eW, fun _ => trivial⟩ ?_
              · intro W hW; go_simp
              simp only [Act.put, List.setIfInBounds_toArray, List.set_cons_zero, List.set_cons_succ]
              refine till_take_R (i := 2) 44 (.pointer (some ⟨E, 0, none⟩)) rfl rfl (by kernel_rfl) (by kernel_rfl) (by kernel_rfl) (by decide) (fun _ _ _ h => h) (Or.inl ⟨by rfl, ?_⟩) ⟨eW, fun _ => trivial⟩ ?_
              · intro W hW; go_simp
              simp only [Act.put, List.setIfInBounds_toArray, List.set_cons_zero, List.set_cons_succ]
              refine till_take_R (i := 3) 45 (.iface 86 (.pointer (some ⟨b, 0, none⟩))) rfl rfl (by kernel_rfl) (by kernel_rfl) (by kernel_rfl) (by decide) (fun _ _ _ h => h) (Or.inl ⟨by rfl, ?_⟩) ⟨eW, fun _ => trivial⟩ ?_
              · intro W hW; go_simp
              simp only [Act.put, List.setIfInBounds_toArray, List.set_cons_zero, List.set_cons_succ]
              refine till_take_R (i := 4) 46 (.string s) rfl rfl (by kernel_rfl) (by kernel_rfl) (by kernel_rfl) (by decide) (fun _ _ _ h => h) (Or.inl ⟨by rfl, ?_⟩) ⟨eW, fun _ => trivial⟩ ?_
              · intro W hW; go_simp
              simp only [Act.put, List.setIfInBounds_toArray, List.set_cons_zero, List.set_cons_succ]
              refine till_take_R (i := 5) 47 (.int .i64 a) rfl rfl (by kernel_rfl) (by kernel_rfl) (by kernel_rfl) (by decide) (fun _ _ _ h => h) (Or.inl ⟨by rfl, ?_⟩) ⟨eW, fun _ => trivial⟩ ?_
              · intro W hW; go_simp
              simp only [Act.put, List.setIfInBounds_toArray, List.set_cons_zero, List.set_cons_succ]
              refine till_take_R (i := 6) 48 (.int .i64 k) rfl rfl (by kernel_rfl) (by kernel_rfl) (by kernel_rfl) (by decide) (fun _ _ _ h => h) (Or.inl ⟨by rfl, ?_⟩) ⟨eW, fun _ => trivial⟩ ?_
              · intro W hW; go_simp
              simp only [Act.put, List.setIfInBounds_toArray, List.set_cons_zero, List.set_cons_succ]
              refine till_take_R (i := 7) 49 (.string (strL (mid s.data.toList a k))) rfl rfl (by kernel_rfl) (by kernel_rfl) (by kernel_rfl) (by decide) (fun _ _ _ h => h) (Or.inl ⟨by rfl, ?_⟩) ⟨eW, fun _ => trivial⟩ ?_
              · intro W hW; go_simp
              simp only [Act.put, List.setIfInBounds_toArray, List.set_cons_zero, List.set_cons_succ]
              refine till_take_R (i := 8) 50 (.iface 86 (.pointer (some ⟨b, 0, none⟩))) rfl rfl (by kernel_rfl) (by kernel_rfl) (by kernel_rfl) (by decide) (fun _ _ _ h => h) (Or.inl ⟨by rfl, ?_⟩) ⟨eW, fun _ => trivial⟩ ?_
              · intro W hW; go_simp
              simp only [Act.put, List.setIfInBounds_toArray, List.set_cons_zero, List.set_cons_succ]
              refine till_take_R (i := 9) 51 (.iface 86 (.pointer (some ⟨b, 0, none⟩))) rfl rfl (by kernel_rfl) (by kernel_rfl) (by kernel_rfl) (by decide) (fun _ _ _ h => h) (Or.inl ⟨by rfl, ?_⟩) ⟨eW, fun _ => trivial⟩ ?_
              · intro W hW; go_simp
              simp only [Act.put, List.setIfInBounds_toArray, List.set_cons_zero, List.set_cons_succ]
              refine anyS_ready (rs := [10]) (by kernel_rfl) (by simp) ?_
              refine AllS.cons rfl (fun K hK => ?_) AllS.nil
              go_simp
              refine HWR.out.mono ?_
              rintro e w4 ⟨rfl, hp⟩
              have HP := Lib.hid ((HR.out.1.drew).write hp)
              have eX : w4.cell? ⟨E, 0, none⟩ = some (.iface 86 (.pointer (some ⟨b, 0, none⟩))) := by obtain ⟨r4, h4⟩ := HP.out.1.enc; exact h4.cell0
              clear hp
              refine hK.out _ _ ⟨eX, fun _ => trivial⟩ ?_
              clear hK K eX eW
              refine anyS_done (by kernel_rfl) ?_ _
              go_wp2_with fail
              go_meet
              refine Lib.hid ⟨?_, HR.out.2.1.drew.trans HP.out.2⟩
              have := HP.out.1
              rw [List.append_assoc, List.cons_append, ← HR.out.2.2.2.app hak] at this
              exact this
            · have hfz : ¬ (a : Int) < (k : Int) := by omega
              go_wp2_with fail
              go_meet
              obtain rfl : a = k := by omega
              exact Lib.hid ⟨HR.out.1, HR.out.2.1⟩
          case rest =>
            obtain ⟨rc, hEc⟩ := hcut.out.1.enc
            have eE := hEc.cell0
            have hltc := hEc.lt
            have HCU := hcut
            clear hcut hEc
            have HWS := Lib.hid (limStr_any wc B b g _ [92, 110] HCU.out.1.lim (HLE1.out k 10 HCC.out) HCU.out.1.lb HCU.out.1.lg HCU.out.1.le)
            go_wp2_with fail
            refine HWS.out.mono ?_
            rintro e w5 ⟨rfl, hp⟩
            have HP := Lib.hid (HCU.out.1.write hp)
            clear hp
            go_wp2_with fail
            refine ⟨⟨k + 1, k + 1, Nat.le_refl _, by omega, by simp, by simp, Lib.hid ⟨?_, HCU.out.2.trans HP.out.2, HNX.out, Plain.nil _ _⟩⟩, by simp [intOf]; omega⟩
            have := HP.out.1
            rw [List.append_assoc, List.cons_append] at this
            rw [HJ.out]
            exact this
        -- ]]
      by_cases h13 : c = 13
      · subst h13
        -- [[
        as_aux_lemma =>
          have HNX := Lib.hid (valid_next s k 13 HCC.out (by decide) HR.out.2.2.1)
          have HJ := Lib.hid (jqs_take s.data.toList k 13 HCC.out)
          go_upto_if 41 with fail
          go_cut [] from 14 to 169 (fun wx => Hid (StL wx B b g E (bs ++ 34 :: jqs (s.data.toList.take k)) ∧ KB B b g E w wx))
          case first =>
            by_cases hf : a < k
            · have hfz : (a : Int) < (k : Int) := by omega
              have hx : s.extract a k = strL (mid s.data.toList a k) := mid_extract s a k
              have HWR := Lib.hid (limStr_any wr.drew B b g _ (mid s.data.toList a k) HR.out.1.lim.drew (HLEN.out a k hak hk HR.out.2.2.2) HR.out.1.lb HR.out.1.lg HR.out.1.le)
              go_wp2_with fail
              refine wp_region_S (Sf := Till 10 (fun W => W.cell? ⟨E, 0, none⟩ = some (.iface 86 (.pointer (some ⟨b, 0, none⟩)))) (fun _ => True)) (by kernel_rfl) ?_
              have eW : wr.drew.cell? ⟨E, 0, none⟩ = some (.iface 86 (.pointer (some ⟨b, 0, none⟩))) := eE
              clear eE
              refine till_take_R (i := 0) 42 (.pointer (some ⟨E, 0, none⟩)) rfl rfl (by kernel_rfl) (by kernel_rfl) (by kernel_rfl) (by decide) (fun _ _ _ h => h) (Or.inl ⟨by rfl, ?_⟩) ⟨eW, fun _ => trivial⟩ ?_
              · intro W hW; go_simp
              simp only [Act.put, List.setIfInBounds_toArray, List.set_cons_zero, List.set_cons_succ]
              refine till_take_R (i := 1) 43 (.pointer (some ⟨E, 0, none⟩)) rfl rfl (by kernel_rfl) (by kernel_rfl) (by kernel_rfl) (by decide) (fun _ _ _ h => h) (Or.inl ⟨by rfl, ?_⟩) ⟨eW, fun _ => trivial⟩ ?_
              · intro W hW; go_simp
              simp only [Act.put, List.setIfInBounds_toArray, List.set_cons_zero, List.set_cons_succ]
              refine till_take_R (i := 2) 44 (.pointer (some ⟨E, 0, none⟩)) rfl rfl (by kernel_rfl) (by kernel_rfl) (by kernel_rfl) (by decide) (fun _ _ _ h => h) (Or.inl ⟨by rfl, ?_⟩) ⟨eW, fun _ => trivial⟩ ?_
              · intro W hW; go_simp
              simp only [Act.put, List.setIfInBounds_toArray, List.set_cons_zero, List.set_cons_succ]
              refine till_take_R (i := 3) 45 (.iface 86 (.pointer (some ⟨b, 0, none⟩))) rfl rfl (by kernel_rfl) (by kernel_rfl) (by kernel_rfl) (by decide) (fun _ _ _ h => h) (Or.inl ⟨by rfl, ?_⟩) ⟨eW, fun _ => trivial⟩ ?_
              · intro W hW; go_simp
              simp only [Act.put, List.setIfInBounds_toArray, List.set_cons_zero, List.set_cons_succ]
              refine till_take_R (i := 4) 46 (.string s) rfl rfl (by kernel_rfl) (by kernel_rfl) (by kernel_rfl) (by decide) (fun _ _ _ h => h) (Or.inl ⟨by rfl, ?_⟩) ⟨eW, fun _ => trivial⟩ ?_
              · intro W hW; go_simp
              simp only [Act.put, List.setIfInBounds_toArray, List.set_cons_zero, List.set_cons_succ]
              refine till_take_R (i := 5) 47 (.int .i64 a) rfl rfl (by kernel_rfl) (by kernel_rfl) (by kernel_rfl) (by decide) (fun _ _ _ h => h) (Or.inl ⟨by rfl, ?_⟩) ⟨eW, fun _ => trivial⟩ ?_
              · intro W hW; go_simp
              simp only [Act.put, List.setIfInBounds_toArray, List.set_cons_zero, List.set_cons_succ]
              refine till_take_R (i := 6) 48 (.int .i64 k) rfl rfl (by kernel_rfl) (by kernel_rfl) (by kernel_rfl) (by decide) (fun _ _ _ h => h) (Or.inl ⟨by rfl, ?_⟩) ⟨eW, fun _ => trivial⟩ ?_
              · intro W hW; go_simp
              simp only [Act.put, List.setIfInBounds_toArray, List.set_cons_zero, List.set_cons_succ]
              refine till_take_R (i := 7) 49 (.string (strL (mid s.data.toList a k))) rfl rfl (by kernel_rfl) (by kernel_rfl) (by kernel_rfl) (by decide) (fun _ _ _ h => h) (Or.inl ⟨by rfl, ?_⟩) ⟨eW, fun _ => trivial⟩ ?_
              · intro W hW; go_simp
              simp only [Act.put, List.setIfInBounds_toArray, List.set_cons_zero, List.set_cons_succ]
              refine till_take_R (i := 8) 50 (.iface 86 (.pointer (some ⟨b, 0, none⟩))) rfl rfl (by kernel_rfl) (by kernel_rfl) (by kernel_rfl) (by decide) (fun _ _ _ h => h) (Or.inl ⟨by rfl, ?_⟩) ⟨eW, fun _ => trivial⟩ ?_
              · intro W hW; go_simp
              simp only [Act.put, List.setIfInBounds_toArray, List.set_cons_zero, List.set_cons_succ]
              refine till_take_R (i := 9) 51 (.iface 86 (.pointer (some ⟨b, 0, none⟩))) rfl rfl (by kernel_rfl) (by kernel_rfl) (by kernel_rfl) (by decide) (fun _ _ _ h => h) (Or.inl ⟨by rfl, ?_⟩) ⟨eW, fun _ => trivial⟩ ?_
              · intro W hW; go_simp
              simp only [Act.put, List.setIfInBounds_toArray, List.set_cons_zero, List.set_cons_succ]
              refine anyS_ready (rs := [10]) (by kernel_rfl) (by simp) ?_
              refine AllS.cons rfl (fun K hK => ?_) AllS.nil
              go_simp
              refine HWR.out.mono ?_
              rintro e w4 ⟨rfl, hp⟩
              have HP := Lib.hid ((HR.out.1.drew).write hp)
              have eX : w4.cell? ⟨E, 0, none⟩ = some (.iface 86 (.pointer (some ⟨b, 0, none⟩))) := by obtain ⟨r4, h4⟩ := HP.out.1.enc; exact h4.cell0
              clear hp
              refine hK.out _ _ ⟨eX, fun _ => trivial⟩ ?_
              clear hK K eX eW
              refine anyS_done (by kernel_rfl) ?_ _
              go_wp2_with fail
              go_meet
              refine Lib.hid ⟨?_, HR.out.2.1.drew.trans HP.out.2⟩
              have := HP.out.1
              rw [List.append_assoc, List.cons_append, ← HR.out.2.2.2.app hak] at this
              exact this
            · have hfz : ¬ (a : Int) < (k : Int) := by omega
              go_wp2_with fail
              go_meet
              obtain rfl : a = k := by omega
              exact Lib.hid ⟨HR.out.1, HR.out.2.1⟩
          case rest =>
            obtain ⟨rc, hEc⟩ := hcut.out.1.enc
            have eE := hEc.cell0
            have hltc := hEc.lt
            have HCU := hcut
            clear hcut hEc
            have HWS := Lib.hid (limStr_any wc B b g _ [92, 114] HCU.out.1.lim (HLE1.out k 13 HCC.out) HCU.out.1.lb HCU.out.1.lg HCU.out.1.le)
            go_wp2_with fail
            refine HWS.out.mono ?_
            rintro e w5 ⟨rfl, hp⟩
            have HP := Lib.hid (HCU.out.1.write hp)
            clear hp
            go_wp2_with fail
            refine ⟨⟨k + 1, k + 1, Nat.le_refl _, by omega, by simp, by simp, Lib.hid ⟨?_, HCU.out.2.trans HP.out.2, HNX.out, Plain.nil _ _⟩⟩, by simp [intOf]; omega⟩
            have := HP.out.1
            rw [List.append_assoc, List.cons_append] at this
            rw [HJ.out]
            exact this
        -- ]]
      by_cases h9 : c = 9
      · subst h9
        -- [[
        as_aux_lemma =>
          have HNX := Lib.hid (valid_next s k 9 HCC.out (by decide) HR.out.2.2.1)
          have HJ := Lib.hid (jqs_take s.data.toList k 9 HCC.out)
          go_upto_if 41 with fail
          go_cut [] from 14 to 169 (fun wx => Hid (StL wx B b g E (bs ++ 34 :: jqs (s.data.toList.take k)) ∧ KB B b g E w wx))
          case first =>
            by_cases hf : a < k
            · have hfz : (a : Int) < (k : Int) := by omega
              have hx : s.extract a k = strL (mid s.data.toList a k) := mid_extract s a k
              have HWR := Lib.hid (limStr_any wr.drew B b g _ (mid s.data.toList a k) HR.out.1.lim.drew (HLEN.out a k hak hk HR.out.2.2.2) HR.out.1.lb HR.out.1.lg HR.out.1.le)
              go_wp2_with fail
              refine wp_region_S (Sf := Till 10 (fun W => W.cell? ⟨E, 0, none⟩ = some (.iface 86 (.pointer (some ⟨b, 0, none⟩)))) (fun _ => True)) (by kernel_rfl) ?_
              have eW : wr.drew.cell? ⟨E, 0, none⟩ = some (.iface 86 (.pointer (some ⟨b, 0, none⟩))) := eE
              clear eE
              refine till_take_R (i := 0) 42 (.pointer (some ⟨E, 0, none⟩)) rfl rfl (by kernel_rfl) (by kernel_rfl) (by kernel_rfl) (by decide) (fun _ _ _ h => h) (Or.inl ⟨by rfl, ?_⟩) ⟨eW, fun _ => trivial⟩ ?_
              · intro W hW; go_simp
              simp only [Act.put, List.setIfInBounds_toArray, List.set_cons_zero, List.set_cons_succ]
              refine till_take_R (i := 1) 43 (.pointer (some ⟨E, 0, none⟩)) rfl rfl (by kernel_rfl) (by kernel_rfl) (by kernel_rfl) (by decide) (fun _ _ _ h => h) (Or.inl ⟨by rfl, ?_⟩) ⟨eW, fun _ => trivial⟩ ?_
              · intro W hW; go_simp
              simp only [Act.put, List.setIfInBounds_toArray, List.set_cons_zero, List.set_cons_succ]
              refine till_take_R (i := 2) 44 (.pointer (some ⟨E, 0, none⟩)) rfl rfl (by kernel_rfl) (by kernel_rfl) (by kernel_rfl) (by decide) (fun _ _ _ h => h) (Or.inl ⟨by rfl, ?_⟩) ⟨eW, fun _ => trivial⟩ ?_
              · intro W hW; go_simp
              simp only [Act.put, List.setIfInBounds_toArray, List.set_cons_zero, List.set_cons_succ]
              refine till_take_R (i := 3) 45 (.iface 86 (.pointer (some ⟨b, 0, none⟩))) rfl rfl (by kernel_rfl) (by kernel_rfl) (by kernel_rfl) (by decide) (fun _ _ _ h => h) (Or.inl ⟨by rfl, ?_⟩) ⟨eW, fun _ => trivial⟩ ?_
              · intro W hW; go_simp
              simp only [Act.put, List.setIfInBounds_toArray, List.set_cons_zero, List.set_cons_succ]
              refine till_take_R (i := 4) 46 (.string s) rfl rfl (by kernel_rfl) (by kernel_rfl) (by kernel_rfl) (by decide) (fun _ _ _ h => h) (Or.inl ⟨by rfl, ?_⟩) ⟨eW, fun _ => trivial⟩ ?_
              · intro W hW; go_simp
              simp only [Act.put, List.setIfInBounds_toArray, List.set_cons_zero, List.set_cons_succ]
              refine till_take_R (i := 5) 47 (.int .i64 a) rfl rfl (by kernel_rfl) (by kernel_rfl) (by kernel_rfl) (by decide) (fun _ _ _ h => h) (Or.inl ⟨by rfl, ?_⟩) ⟨eW, fun _ => trivial⟩ ?_
              · intro W hW; go_simp
              simp only [Act.put, List.setIfInBounds_toArray, List.set_cons_zero, List.set_cons_succ]
              refine till_take_R (i := 6) 48 (.int .i64 k) rfl rfl (by kernel_rfl) (by kernel_rfl) (by kernel_rfl) (by decide) (fun _ _ _ h => h) (Or.inl ⟨by rfl, ?_⟩) ⟨eW, fun _ => trivial⟩ ?_
              · intro W hW; go_simp
              simp only [Act.put, List.setIfInBounds_toArray, List.set_cons_zero, List.set_cons_succ]
              refine till_take_R (i := 7) 49 (.string (strL (mid s.data.toList a k))) rfl rfl (by kernel_rfl) (by kernel_rfl) (by kernel_rfl) (by decide) (fun _ _ _ h => h) (Or.inl ⟨by rfl, ?_⟩) ⟨eW, fun _ => trivial⟩ ?_
              · intro W hW; go_simp
              simp only [Act.put, List.setIfInBounds_toArray, List.set_cons_zero, List.set_cons_succ]
              refine till_take_R (i := 8) 50 (.iface 86 (.pointer (some ⟨b, 0, none⟩))) rfl rfl (by kernel_rfl) (by kernel_rfl) (by kernel_rfl) (by decide) (fun _ _ _ h => h) (Or.inl ⟨by rfl, ?_⟩) ⟨eW, fun _ => trivial⟩ ?_
              · intro W hW; go_simp
              simp only [Act.put, List.setIfInBounds_toArray, List.set_cons_zero, List.set_cons_succ]
              refine till_take_R (i := 9) 51 (.iface 86 (.pointer (some ⟨b, 0, none⟩))) rfl rfl (by kernel_rfl) (by kernel_rfl) (by kernel_rfl) (by decide) (fun _ _ _ h => h) (Or.inl ⟨by rfl, ?_⟩) ⟨eW, fun _ => trivial⟩ ?_
              · intro W hW; go_simp
              simp only [Act.put, List.setIfInBounds_toArray, List.set_cons_zero, List.set_cons_succ]
              refine anyS_ready (rs := [10]) (by kernel_rfl) (by simp) ?_
              refine AllS.cons rfl (fun K hK => ?_) AllS.nil
              go_simp
              refine HWR.out.mono ?_
              rintro e w4 ⟨rfl, hp⟩
              have HP := Lib.hid ((HR.out.1.drew).write hp)
              have eX : w4.cell? ⟨E, 0, none⟩ = some (.iface 86 (.pointer (some ⟨b, 0, none⟩))) := by obtain ⟨r4, h4⟩ := HP.out.1.enc; exact h4.cell0
              clear hp
              refine hK.out _ _ ⟨eX, fun _ => trivial⟩ ?_
              clear hK K eX eW
              refine anyS_done (by kernel_rfl) ?_ _
              go_wp2_with fail
              go_meet
              refine Lib.hid ⟨?_, HR.out.2.1.drew.trans HP.out.2⟩
              have := HP.out.1
              rw [List.append_assoc, List.cons_append, ← HR.out.2.2.2.app hak] at this
              exact this
            · have hfz : ¬ (a : Int) < (k : Int) := by omega
              go_wp2_with fail
              go_meet
              obtain rfl : a = k := by omega
              exact Lib.hid ⟨HR.out.1, HR.out.2.1⟩
          case rest =>
            obtain ⟨rc, hEc⟩ := hcut.out.1.enc
            have eE := hEc.cell0
            have hltc := hEc.lt
            have HCU := hcut
            clear hcut hEc
            have HWS := Lib.hid (limStr_any wc B b g _ [92, 116] HCU.out.1.lim (HLE1.out k 9 HCC.out) HCU.out.1.lb HCU.out.1.lg HCU.out.1.le)
            go_wp2_with fail
            refine HWS.out.mono ?_
            rintro e w5 ⟨rfl, hp⟩
            have HP := Lib.hid (HCU.out.1.write hp)
            clear hp
            go_wp2_with fail
            refine ⟨⟨k + 1, k + 1, Nat.le_refl _, by omega, by simp, by simp, Lib.hid ⟨?_, HCU.out.2.trans HP.out.2, HNX.out, Plain.nil _ _⟩⟩, by simp [intOf]; omega⟩
            have := HP.out.1
            rw [List.append_assoc, List.cons_append] at this
            rw [HJ.out]
            exact this
        -- ]]
      by_cases h127 : c = 127
      · subst h127
        have HCT : Hid True := Lib.hid trivial
        -- [[
        as_aux_lemma =>
          have HNX := Lib.hid (valid_next s k 127 HCC.out (by first | decide | omega) HR.out.2.2.1)
          have HJ := Lib.hid (jqs_take s.data.toList k 127 HCC.out)
          have HJ1 : Hid (jq1 127 = [92, 117, 48, 48] ++ [55] ++ [102]) := Lib.hid (rfl)
          go_upto_if 41 with fail
          go_cut [] from 14 to 169 (fun wx => Hid (StL wx B b g E (bs ++ 34 :: jqs (s.data.toList.take k)) ∧ KB B b g E w wx))
          case first =>
            by_cases hf : a < k
            · have hfz : (a : Int) < (k : Int) := by omega
              have hx : s.extract a k = strL (mid s.data.toList a k) := mid_extract s a k
              have HWR := Lib.hid (limStr_any wr.drew B b g _ (mid s.data.toList a k) HR.out.1.lim.drew (HLEN.out a k hak hk HR.out.2.2.2) HR.out.1.lb HR.out.1.lg HR.out.1.le)
              go_wp2_with fail
              refine wp_region_S (Sf := Till 10 (fun W => W.cell? ⟨E, 0, none⟩ = some (.iface 86 (.pointer (some ⟨b, 0, none⟩)))) (fun _ => True)) (by kernel_rfl) ?_
              have eW : wr.drew.cell? ⟨E, 0, none⟩ = some (.iface 86 (.pointer (some ⟨b, 0, none⟩))) := eE
              clear eE
              refine till_take_R (i := 0) 42 (.pointer (some ⟨E, 0, none⟩)) rfl rfl (by kernel_rfl) (by kernel_rfl) (by kernel_rfl) (by decide) (fun _ _ _ h => h) (Or.inl ⟨by rfl, ?_⟩) ⟨eW, fun _ => trivial⟩ ?_
              · intro W hW; go_simp
              simp only [Act.put, List.setIfInBounds_toArray, List.set_cons_zero, List.set_cons_succ]
              refine till_take_R (i := 1) 43 (.pointer (some ⟨E, 0, none⟩)) rfl rfl (by kernel_rfl) (by kernel_rfl) (by kernel_rfl) (by decide) (fun _ _ _ h => h) (Or.inl ⟨by rfl, ?_⟩) ⟨eW, fun _ => trivial⟩ ?_
              · intro W hW; go_simp
              simp only [Act.put, List.setIfInBounds_toArray, List.set_cons_zero, List.set_cons_succ]
              refine till_take_R (i := 2) 44 (.pointer (some ⟨E, 0, none⟩)) rfl rfl (by kernel_rfl) (by kernel_rfl) (by kernel_rfl) (by decide) (fun _ _ _ h => h) (Or.inl ⟨by rfl, ?_⟩) ⟨eW, fun _ => trivial⟩ ?_
              · intro W hW; go_simp
              simp only [Act.put, List.setIfInBounds_toArray, List.set_cons_zero, List.set_cons_succ]
              refine till_take_R (i := 3) 45 (.iface 86 (.pointer (some ⟨b, 0, none⟩))) rfl rfl (by kernel_rfl) (by kernel_rfl) (by kernel_rfl) (by decide) (fun _ _ _ h => h) (Or.inl ⟨by rfl, ?_⟩) ⟨eW, fun _ => trivial⟩ ?_
              · intro W hW; go_simp
              simp only [Act.put, List.setIfInBounds_toArray, List.set_cons_zero, List.set_cons_succ]
              refine till_take_R (i := 4) 46 (.string s) rfl rfl (by kernel_rfl) (by kernel_rfl) (by kernel_rfl) (by decide) (fun _ _ _ h => h) (Or.inl ⟨by rfl, ?_⟩) ⟨eW, fun _ => trivial⟩ ?_
              · intro W hW; go_simp
              simp only [Act.put, List.setIfInBounds_toArray, List.set_cons_zero, List.set_cons_succ]
              refine till_take_R (i := 5) 47 (.int .i64 a) rfl rfl (by kernel_rfl) (by kernel_rfl) (by kernel_rfl) (by decide) (fun _ _ _ h => h) (Or.inl ⟨by rfl, ?_⟩) ⟨eW, fun _ => trivial⟩ ?_
              · intro W hW; go_simp
              simp only [Act.put, List.setIfInBounds_toArray, List.set_cons_zero, List.set_cons_succ]
              refine till_take_R (i := 6) 48 (.int .i64 k) rfl rfl (by kernel_rfl) (by kernel_rfl) (by kernel_rfl) (by decide) (fun _ _ _ h => h) (Or.inl ⟨by rfl, ?_⟩) ⟨eW, fun _ => trivial⟩ ?_
              · intro W hW; go_simp
              simp only [Act.put, List.setIfInBounds_toArray, List.set_cons_zero, List.set_cons_succ]
              refine till_take_R (i := 7) 49 (.string (strL (mid s.data.toList a k))) rfl rfl (by kernel_rfl) (by kernel_rfl) (by kernel_rfl) (by decide) (fun _ _ _ h => h) (Or.inl ⟨by rfl, ?_⟩) ⟨eW, fun _ => trivial⟩ ?_
              · intro W hW; go_simp
              simp only [Act.put, List.setIfInBounds_toArray, List.set_cons_zero, List.set_cons_succ]
              refine till_take_R (i := 8) 50 (.iface 86 (.pointer (some ⟨b, 0, none⟩))) rfl rfl (by kernel_rfl) (by kernel_rfl) (by kernel_rfl) (by decide) (fun _ _ _ h => h) (Or.inl ⟨by rfl, ?_⟩) ⟨eW, fun _ => trivial⟩ ?_
              · intro W hW; go_simp
              simp only [Act.put, List.setIfInBounds_toArray, List.set_cons_zero, List.set_cons_succ]
              refine till_take_R (i := 9) 51 (.iface 86 (.pointer (some ⟨b, 0, none⟩))) rfl rfl (by kernel_rfl) (by kernel_rfl) (by kernel_rfl) (by decide) (fun _ _ _ h => h) (Or.inl ⟨by rfl, ?_⟩) ⟨eW, fun _ => trivial⟩ ?_
              · intro W hW; go_simp
              simp only [Act.put, List.setIfInBounds_toArray, List.set_cons_zero, List.set_cons_succ]
              refine anyS_ready (rs := [10]) (by kernel_rfl) (by simp) ?_
              refine AllS.cons rfl (fun K hK => ?_) AllS.nil
              go_simp
              refine HWR.out.mono ?_
              rintro e w4 ⟨rfl, hp⟩
              have HP := Lib.hid ((HR.out.1.drew).write hp)
              have eX : w4.cell? ⟨E, 0, none⟩ = some (.iface 86 (.pointer (some ⟨b, 0, none⟩))) := by obtain ⟨r4, h4⟩ := HP.out.1.enc; exact h4.cell0
              clear hp
              refine hK.out _ _ ⟨eX, fun _ => trivial⟩ ?_
              clear hK K eX eW
              refine anyS_done (by kernel_rfl) ?_ _
              go_wp2_with fail
              go_meet
              refine Lib.hid ⟨?_, HR.out.2.1.drew.trans HP.out.2⟩
              have := HP.out.1
              rw [List.append_assoc, List.cons_append, ← HR.out.2.2.2.app hak] at this
              exact this
            · have hfz : ¬ (a : Int) < (k : Int) := by omega
              go_wp2_with fail
              go_meet
              obtain rfl : a = k := by omega
              exact Lib.hid ⟨HR.out.1, HR.out.2.1⟩
          case rest =>
            obtain ⟨rc, hEc⟩ := hcut.out.1.enc
            have eE := hEc.cell0
            have hltc := hEc.lt
            have HCU := hcut
            clear hcut hEc
            have HL6 := Lib.hid (HLE1.out k 127 HCC.out)
            rw [HJ1.out] at HL6
            have HWS := Lib.hid (limStr_any wc B b g _ [92, 117, 48, 48] HCU.out.1.lim (by have := HL6.out; simp only [List.length_append, List.length_cons, List.length_nil] at this ⊢; omega) HCU.out.1.lb HCU.out.1.lg HCU.out.1.le)
            go_wp2_with fail
            refine HWS.out.mono ?_
            rintro e w5 ⟨rfl, hp⟩
            have HP5 := Lib.hid (HCU.out.1.write hp)
            clear hp eE
            obtain ⟨r5, hE5⟩ := HP5.out.1.enc
            have eE := hE5.cell0
            have hlt5 := hE5.lt
            clear hE5
            have HW1 : Hid (Calls Tryz.prog 191 #[.pointer (some ⟨b, 0, none⟩), .int .u8 55] w5.drew (fun e w' => e = .returned .nilIface ∧ LimPost B b g (((bs ++ 34 :: jqs (s.data.toList.take k)) ++ [92, 117, 48, 48]) ++ [55]) w5.drew w')) := Lib.hid (limByte_any w5.drew B b g _ (55) HP5.out.1.lim.drew (by have := HL6.out; simp only [List.length_append, List.length_cons, List.length_nil] at this ⊢; omega) HP5.out.1.lb HP5.out.1.lg HP5.out.1.le)
            go_wp2_with fail
            refine wp_region_S (Sf := Till 9 (fun W => W.cell? ⟨E, 0, none⟩ = some (.iface 86 (.pointer (some ⟨b, 0, none⟩)))) (fun _ => True)) (by kernel_rfl) ?_
            have eW : w5.drew.cell? ⟨E, 0, none⟩ = some (.iface 86 (.pointer (some ⟨b, 0, none⟩))) := eE
            clear eE
            refine till_take_R (i := 0) 59 (.pointer (some ⟨E, 0, none⟩)) rfl rfl (by kernel_rfl) (by kernel_rfl) (by kernel_rfl) (by decide) (fun _ _ _ h => h) (Or.inl ⟨by rfl, ?_⟩) ⟨eW, fun _ => trivial⟩ ?_
            · intro W hW; go_simp
            simp only [Act.put, List.setIfInBounds_toArray, List.set_cons_zero, List.set_cons_succ]
            refine till_take_R (i := 1) 60 (.pointer (some ⟨E, 0, none⟩)) rfl rfl (by kernel_rfl) (by kernel_rfl) (by kernel_rfl) (by decide) (fun _ _ _ h => h) (Or.inl ⟨by rfl, ?_⟩) ⟨eW, fun _ => trivial⟩ ?_
            · intro W hW; go_simp
            simp only [Act.put, List.setIfInBounds_toArray, List.set_cons_zero, List.set_cons_succ]
            refine till_take_R (i := 2) 61 (.pointer (some ⟨E, 0, none⟩)) rfl rfl (by kernel_rfl) (by kernel_rfl) (by kernel_rfl) (by decide) (fun _ _ _ h => h) (Or.inl ⟨by rfl, ?_⟩) ⟨eW, fun _ => trivial⟩ ?_
            · intro W hW; go_simp
            simp only [Act.put, List.setIfInBounds_toArray, List.set_cons_zero, List.set_cons_succ]
            refine till_take_R (i := 3) 62 (.iface 86 (.pointer (some ⟨b, 0, none⟩))) rfl rfl (by kernel_rfl) (by kernel_rfl) (by kernel_rfl) (by decide) (fun _ _ _ h => h) (Or.inl ⟨by rfl, ?_⟩) ⟨eW, fun _ => trivial⟩ ?_
            · intro W hW; go_simp
            simp only [Act.put, List.setIfInBounds_toArray, List.set_cons_zero, List.set_cons_succ]
            refine till_take_R (i := 4) 63 (.int .u8 127) rfl rfl (by kernel_rfl) (by kernel_rfl) (by kernel_rfl) (by decide) (fun _ _ _ h => h) (Or.inl ⟨by rfl, ?_⟩) ⟨eW, fun _ => trivial⟩ ?_
            · intro W hW; go_simp
            simp only [Act.put, List.setIfInBounds_toArray, List.set_cons_zero, List.set_cons_succ]
            refine till_take_R (i := 5) 64 (.int .u8 7) rfl rfl (by kernel_rfl) (by kernel_rfl) (by kernel_rfl) (by decide) (fun _ _ _ h => h) (Or.inl ⟨by rfl, ?_⟩) ⟨eW, fun _ => trivial⟩ ?_
            · intro W hW; go_simp
            simp only [Act.put, List.setIfInBounds_toArray, List.set_cons_zero, List.set_cons_succ]
            refine till_take_R (i := 6) 65 (.int .u8 55) rfl rfl (by kernel_rfl) (by kernel_rfl) (by kernel_rfl) (by decide) (fun _ _ _ h => h) (Or.inl ⟨by rfl, ?_⟩) ⟨eW, fun _ => trivial⟩ ?_
            · intro W hW; go_simp; rfl
            simp only [Act.put, List.setIfInBounds_toArray, List.set_cons_zero, List.set_cons_succ]
            refine till_take_R (i := 7) 66 (.iface 86 (.pointer (some ⟨b, 0, none⟩))) rfl rfl (by kernel_rfl) (by kernel_rfl) (by kernel_rfl) (by decide) (fun _ _ _ h => h) (Or.inl ⟨by rfl, ?_⟩) ⟨eW, fun _ => trivial⟩ ?_
            · intro W hW; go_simp
            simp only [Act.put, List.setIfInBounds_toArray, List.set_cons_zero, List.set_cons_succ]
            refine till_take_R (i := 8) 67 (.iface 86 (.pointer (some ⟨b, 0, none⟩))) rfl rfl (by kernel_rfl) (by kernel_rfl) (by kernel_rfl) (by decide) (fun _ _ _ h => h) (Or.inl ⟨by rfl, ?_⟩) ⟨eW, fun _ => trivial⟩ ?_
            · intro W hW; go_simp
            simp only [Act.put, List.setIfInBounds_toArray, List.set_cons_zero, List.set_cons_succ]
            refine anyS_ready (rs := [9]) (by kernel_rfl) (by simp) ?_
            refine AllS.cons rfl (fun K hK => ?_) AllS.nil
            go_simp
            refine HW1.out.mono ?_
            rintro e w6 ⟨rfl, hp⟩
            have HP6 := Lib.hid (HP5.out.1.drew.write hp)
            have eX : w6.cell? ⟨E, 0, none⟩ = some (.iface 86 (.pointer (some ⟨b, 0, none⟩))) := by obtain ⟨r4, h4⟩ := HP6.out.1.enc; exact h4.cell0
            clear hp
            refine hK.out _ _ ⟨eX, fun _ => trivial⟩ ?_
            clear hK K eX eW
            refine anyS_done (by kernel_rfl) ?_ _
            obtain ⟨r6, hE6⟩ := HP6.out.1.enc
            have eE := hE6.cell0
            have hlt6 := hE6.lt
            clear hE6
            have HW2 : Hid (Calls Tryz.prog 191 #[.pointer (some ⟨b, 0, none⟩), .int .u8 102] w6.drew (fun e w' => e = .returned .nilIface ∧ LimPost B b g ((((bs ++ 34 :: jqs (s.data.toList.take k)) ++ [92, 117, 48, 48]) ++ [55]) ++ [102]) w6.drew w')) := Lib.hid (limByte_any w6.drew B b g _ (102) HP6.out.1.lim.drew (by have := HL6.out; simp only [List.length_append, List.length_cons, List.length_nil] at this ⊢; omega) HP6.out.1.lb HP6.out.1.lg HP6.out.1.le)
            go_wp2_with fail
            refine wp_region_S (Sf := Till 9 (fun W => W.cell? ⟨E, 0, none⟩ = some (.iface 86 (.pointer (some ⟨b, 0, none⟩)))) (fun _ => True)) (by kernel_rfl) ?_
            have eW : w6.drew.cell? ⟨E, 0, none⟩ = some (.iface 86 (.pointer (some ⟨b, 0, none⟩))) := eE
            clear eE
            refine till_take_R (i := 0) 69 (.pointer (some ⟨E, 0, none⟩)) rfl rfl (by kernel_rfl) (by kernel_rfl) (by kernel_rfl) (by decide) (fun _ _ _ h => h) (Or.inl ⟨by rfl, ?_⟩) ⟨eW, fun _ => trivial⟩ ?_
            · intro W hW; go_simp
            simp only [Act.put, List.setIfInBounds_toArray, List.set_cons_zero, List.set_cons_succ]
            refine till_take_R (i := 1) 70 (.pointer (some ⟨E, 0, none⟩)) rfl rfl (by kernel_rfl) (by kernel_rfl) (by kernel_rfl) (by decide) (fun _ _ _ h => h) (Or.inl ⟨by rfl, ?_⟩) ⟨eW, fun _ => trivial⟩ ?_
            · intro W hW; go_simp
            simp only [Act.put, List.setIfInBounds_toArray, List.set_cons_zero, List.set_cons_succ]
            refine till_take_R (i := 2) 71 (.pointer (some ⟨E, 0, none⟩)) rfl rfl (by kernel_rfl) (by kernel_rfl) (by kernel_rfl) (by decide) (fun _ _ _ h => h) (Or.inl ⟨by rfl, ?_⟩) ⟨eW, fun _ => trivial⟩ ?_
            · intro W hW; go_simp
            simp only [Act.put, List.setIfInBounds_toArray, List.set_cons_zero, List.set_cons_succ]
            refine till_take_R (i := 3) 72 (.iface 86 (.pointer (some ⟨b, 0, none⟩))) rfl rfl (by kernel_rfl) (by kernel_rfl) (by kernel_rfl) (by decide) (fun _ _ _ h => h) (Or.inl ⟨by rfl, ?_⟩) ⟨eW, fun _ => trivial⟩ ?_
            · intro W hW; go_simp
            simp only [Act.put, List.setIfInBounds_toArray, List.set_cons_zero, List.set_cons_succ]
            refine till_take_R (i := 4) 73 (.int .u8 127) rfl rfl (by kernel_rfl) (by kernel_rfl) (by kernel_rfl) (by decide) (fun _ _ _ h => h) (Or.inl ⟨by rfl, ?_⟩) ⟨eW, fun _ => trivial⟩ ?_
            · intro W hW; go_simp
            simp only [Act.put, List.setIfInBounds_toArray, List.set_cons_zero, List.set_cons_succ]
            refine till_take_R (i := 5) 74 (.int .u8 15) rfl rfl (by kernel_rfl) (by kernel_rfl) (by kernel_rfl) (by decide) (fun _ _ _ h => h) (Or.inl ⟨by rfl, ?_⟩) ⟨eW, fun _ => trivial⟩ ?_
            · intro W hW; go_simp; first | rfl | decide +kernel
            simp only [Act.put, List.setIfInBounds_toArray, List.set_cons_zero, List.set_cons_succ]
            refine till_take_R (i := 6) 75 (.int .u8 102) rfl rfl (by kernel_rfl) (by kernel_rfl) (by kernel_rfl) (by decide) (fun _ _ _ h => h) (Or.inl ⟨by rfl, ?_⟩) ⟨eW, fun _ => trivial⟩ ?_
            · intro W hW; go_simp; rfl
            simp only [Act.put, List.setIfInBounds_toArray, List.set_cons_zero, List.set_cons_succ]
            refine till_take_R (i := 7) 76 (.iface 86 (.pointer (some ⟨b, 0, none⟩))) rfl rfl (by kernel_rfl) (by kernel_rfl) (by kernel_rfl) (by decide) (fun _ _ _ h => h) (Or.inl ⟨by rfl, ?_⟩) ⟨eW, fun _ => trivial⟩ ?_
            · intro W hW; go_simp
            simp only [Act.put, List.setIfInBounds_toArray, List.set_cons_zero, List.set_cons_succ]
            refine till_take_R (i := 8) 77 (.iface 86 (.pointer (some ⟨b, 0, none⟩))) rfl rfl (by kernel_rfl) (by kernel_rfl) (by kernel_rfl) (by decide) (fun _ _ _ h => h) (Or.inl ⟨by rfl, ?_⟩) ⟨eW, fun _ => trivial⟩ ?_
            · intro W hW; go_simp
            simp only [Act.put, List.setIfInBounds_toArray, List.set_cons_zero, List.set_cons_succ]
            refine anyS_ready (rs := [9]) (by kernel_rfl) (by simp) ?_
            refine AllS.cons rfl (fun K hK => ?_) AllS.nil
            go_simp
            refine HW2.out.mono ?_
            rintro e w7 ⟨rfl, hp⟩
            have HP7 := Lib.hid (HP6.out.1.drew.write hp)
            have eX : w7.cell? ⟨E, 0, none⟩ = some (.iface 86 (.pointer (some ⟨b, 0, none⟩))) := by obtain ⟨r4, h4⟩ := HP7.out.1.enc; exact h4.cell0
            clear hp
            refine hK.out _ _ ⟨eX, fun _ => trivial⟩ ?_
            clear hK K eX eW
            refine anyS_done (by kernel_rfl) ?_ _
            go_wp2_with fail
            refine ⟨⟨k + 1, k + 1, Nat.le_refl _, by omega, by simp, by simp, Lib.hid ⟨?_, HCU.out.2.trans (HP5.out.2.drew.trans (HP6.out.2.drew.trans HP7.out.2)), HNX.out, Plain.nil _ _⟩⟩, by simp [intOf]; omega⟩
            have := HP7.out.1
            rw [HJ.out, HJ1.out]
            simp only [List.append_assoc, List.cons_append] at this ⊢
            exact this
        -- ]]
      have n34 : ((c.toNat : Int) == 34) = false := by rw [beq_eq_false_iff_ne]; intro e; exact h34 (UInt8.toNat.inj (by simpa using (by omega : c.toNat = 34)))
      have n92 : ((c.toNat : Int) == 92) = false := by rw [beq_eq_false_iff_ne]; intro e; exact h92 (UInt8.toNat.inj (by simpa using (by omega : c.toNat = 92)))
      have n8 : ((c.toNat : Int) == 8) = false := by rw [beq_eq_false_iff_ne]; intro e; exact h8 (UInt8.toNat.inj (by simpa using (by omega : c.toNat = 8)))
      have n12 : ((c.toNat : Int) == 12) = false := by rw [beq_eq_false_iff_ne]; intro e; exact h12 (UInt8.toNat.inj (by simpa using (by omega : c.toNat = 12)))
      have n10 : ((c.toNat : Int) == 10) = false := by rw [beq_eq_false_iff_ne]; intro e; exact h10 (UInt8.toNat.inj (by simpa using (by omega : c.toNat = 10)))
      have n13 : ((c.toNat : Int) == 13) = false := by rw [beq_eq_false_iff_ne]; intro e; exact h13 (UInt8.toNat.inj (by simpa using (by omega : c.toNat = 13)))
      have n9 : ((c.toNat : Int) == 9) = false := by rw [beq_eq_false_iff_ne]; intro e; exact h9 (UInt8.toNat.inj (by simpa using (by omega : c.toNat = 9)))
      have n127 : ((c.toNat : Int) == 127) = false := by rw [beq_eq_false_iff_ne]; intro e; exact h127 (UInt8.toNat.inj (by simpa using (by omega : c.toNat = 127)))
      by_cases h32 : c.toNat < 32
      · have HCT : Hid (jq1 c = [92, 117, 48, 48] ++ [hexd (c.toNat / 16)] ++ [hexd (c.toNat % 16)]) := Lib.hid (by unfold jq1; simp [h34, h92, h8, h12, h10, h13, h9, h32])
        have n32 : ¬ (32 : Int) ≤ (c.toNat : Int) := by omega
        have n128 : (c.toNat : Int) < 128 := by omega
        clear h34 h92 h8 h12 h10 h13 h9 h127
        -- [[
        as_aux_lemma =>
          have HNX := Lib.hid (valid_next s k c HCC.out (by first | decide | omega) HR.out.2.2.1)
          have HJ := Lib.hid (jqs_take s.data.toList k c HCC.out)
          have HJ1 : Hid (jq1 c = [92, 117, 48, 48] ++ [hexd (c.toNat / 16)] ++ [hexd (c.toNat % 16)]) := Lib.hid (HCT.out)
          go_upto_if 41 with fail
          go_cut [] from 14 to 169 (fun wx => Hid (StL wx B b g E (bs ++ 34 :: jqs (s.data.toList.take k)) ∧ KB B b g E w wx))
          case first =>
            by_cases hf : a < k
            · have hfz : (a : Int) < (k : Int) := by omega
              have hx : s.extract a k = strL (mid s.data.toList a k) := mid_extract s a k
              have HWR := Lib.hid (limStr_any wr.drew B b g _ (mid s.data.toList a k) HR.out.1.lim.drew (HLEN.out a k hak hk HR.out.2.2.2) HR.out.1.lb HR.out.1.lg HR.out.1.le)
              go_wp2_with fail
              refine wp_region_S (Sf := Till 10 (fun W => W.cell? ⟨E, 0, none⟩ = some (.iface 86 (.pointer (some ⟨b, 0, none⟩)))) (fun _ => True)) (by kernel_rfl) ?_
              have eW : wr.drew.cell? ⟨E, 0, none⟩ = some (.iface 86 (.pointer (some ⟨b, 0, none⟩))) := eE
              clear eE
              refine till_take_R (i := 0) 42 (.pointer (some ⟨E, 0, none⟩)) rfl rfl (by kernel_rfl) (by kernel_rfl) (by kernel_rfl) (by decide) (fun _ _ _ h => h) (Or.inl ⟨by rfl, ?_⟩) ⟨eW, fun _ => trivial⟩ ?_
              · intro W hW; go_simp
              simp only [Act.put, List.setIfInBounds_toArray, List.set_cons_zero, List.set_cons_succ]
              refine till_take_R (i := 1) 43 (.pointer (some ⟨E, 0, none⟩)) rfl rfl (by kernel_rfl) (by kernel_rfl) (by kernel_rfl) (by decide) (fun _ _ _ h => h) (Or.inl ⟨by rfl, ?_⟩) ⟨eW, fun _ => trivial⟩ ?_
              · intro W hW; go_simp
              simp only [Act.put, List.setIfInBounds_toArray, List.set_cons_zero, List.set_cons_succ]
              refine till_take_R (i := 2) 44 (.pointer (some ⟨E, 0, none⟩)) rfl rfl (by kernel_rfl) (by kernel_rfl) (by kernel_rfl) (by decide) (fun _ _ _ h => h) (Or.inl ⟨by rfl, ?_⟩) ⟨eW, fun _ => trivial⟩ ?_
              · intro W hW; go_simp
              simp only [Act.put, List.setIfInBounds_toArray, List.set_cons_zero, List.set_cons_succ]
              refine till_take_R (i := 3) 45 (.iface 86 (.pointer (some ⟨b, 0, none⟩))) rfl rfl (by kernel_rfl) (by kernel_rfl) (by kernel_rfl) (by decide) (fun _ _ _ h => h) (Or.inl ⟨by rfl, ?_⟩) ⟨eW, fun _ => trivial⟩ ?_
              · intro W hW; go_simp
              simp only [Act.put, List.setIfInBounds_toArray, List.set_cons_zero, List.set_cons_succ]
              refine till_take_R (i := 4) 46 (.string s) rfl rfl (by kernel_rfl) (by kernel_rfl) (by kernel_rfl) (by decide) (fun _ _ _ h => h) (Or.inl ⟨by rfl, ?_⟩) ⟨eW, fun _ => trivial⟩ ?_
              · intro W hW; go_simp
              simp only [Act.put, List.setIfInBounds_toArray, List.set_cons_zero, List.set_cons_succ]
              refine till_take_R (i := 5) 47 (.int .i64 a) rfl rfl (by kernel_rfl) (by kernel_rfl) (by kernel_rfl) (by decide) (fun _ _ _ h => h) (Or.inl ⟨by rfl, ?_⟩) ⟨eW, fun _ => trivial⟩ ?_
              · intro W hW; go_simp
              simp only [Act.put, List.setIfInBounds_toArray, List.set_cons_zero, List.set_cons_succ]
              refine till_take_R (i := 6) 48 (.int .i64 k) rfl rfl (by kernel_rfl) (by kernel_rfl) (by kernel_rfl) (by decide) (fun _ _ _ h => h) (Or.inl ⟨by rfl, ?_⟩) ⟨eW, fun _ => trivial⟩ ?_
              · intro W hW; go_simp
              simp only [Act.put, List.setIfInBounds_toArray, List.set_cons_zero, List.set_cons_succ]
              refine till_take_R (i := 7) 49 (.string (strL (mid s.data.toList a k))) rfl rfl (by kernel_rfl) (by kernel_rfl) (by kernel_rfl) (by decide) (fun _ _ _ h => h) (Or.inl ⟨by rfl, ?_⟩) ⟨eW, fun _ => trivial⟩ ?_
              · intro W hW; go_simp
              simp only [Act.put, List.setIfInBounds_toArray, List.set_cons_zero, List.set_cons_succ]
              refine till_take_R (i := 8) 50 (.iface 86 (.pointer (some ⟨b, 0, none⟩))) rfl rfl (by kernel_rfl) (by kernel_rfl) (by kernel_rfl) (by decide) (fun _ _ _ h => h) (Or.inl ⟨by rfl, ?_⟩) ⟨eW, fun _ => trivial⟩ ?_
              · intro W hW; go_simp
              simp only [Act.put, List.setIfInBounds_toArray, List.set_cons_zero, List.set_cons_succ]
              refine till_take_R (i := 9) 51 (.iface 86 (.pointer (some ⟨b, 0, none⟩))) rfl rfl (by kernel_rfl) (by kernel_rfl) (by kernel_rfl) (by decide) (fun _ _ _ h => h) (Or.inl ⟨by rfl, ?_⟩) ⟨eW, fun _ => trivial⟩ ?_
              · intro W hW; go_simp
              simp only [Act.put, List.setIfInBounds_toArray, List.set_cons_zero, List.set_cons_succ]
              refine anyS_ready (rs := [10]) (by kernel_rfl) (by simp) ?_
              refine AllS.cons rfl (fun K hK => ?_) AllS.nil
              go_simp
              refine HWR.out.mono ?_
              rintro e w4 ⟨rfl, hp⟩
              have HP := Lib.hid ((HR.out.1.drew).write hp)
              have eX : w4.cell? ⟨E, 0, none⟩ = some (.iface 86 (.pointer (some ⟨b, 0, none⟩))) := by obtain ⟨r4, h4⟩ := HP.out.1.enc; exact h4.cell0
              clear hp
              refine hK.out _ _ ⟨eX, fun _ => trivial⟩ ?_
              clear hK K eX eW
              refine anyS_done (by kernel_rfl) ?_ _
              go_wp2_with fail
              go_meet
              refine Lib.hid ⟨?_, HR.out.2.1.drew.trans HP.out.2⟩
              have := HP.out.1
              rw [List.append_assoc, List.cons_append, ← HR.out.2.2.2.app hak] at this
              exact this
            · have hfz : ¬ (a : Int) < (k : Int) := by omega
              go_wp2_with fail
              go_meet
              obtain rfl : a = k := by omega
              exact Lib.hid ⟨HR.out.1, HR.out.2.1⟩
          case rest =>
            obtain ⟨rc, hEc⟩ := hcut.out.1.enc
            have eE := hEc.cell0
            have hltc := hEc.lt
            have HCU := hcut
            clear hcut hEc
            have HL6 := Lib.hid (HLE1.out k c HCC.out)
            rw [HJ1.out] at HL6
            obtain ⟨q1, hq1⟩ : ∃ q1, q1 = c.toNat / 16 := ⟨_, rfl⟩
            obtain ⟨q2, hq2⟩ : ∃ q2, q2 = c.toNat % 16 := ⟨_, rfl⟩
            have hq1l : q1 < 16 := by omega
            have hq2l : q2 < 16 := by omega
            rw [← hq1, ← hq2] at HL6 HJ1
            have HQ := Lib.hid (And.intro hq1 hq2)
            clear hq1 hq2
            have HWS := Lib.hid (limStr_any wc B b g _ [92, 117, 48, 48] HCU.out.1.lim (by have := HL6.out; simp only [List.length_append, List.length_cons, List.length_nil] at this ⊢; omega) HCU.out.1.lb HCU.out.1.lg HCU.out.1.le)
            go_wp2_with fail
            refine HWS.out.mono ?_
            rintro e w5 ⟨rfl, hp⟩
            have HP5 := Lib.hid (HCU.out.1.write hp)
            clear hp eE
            obtain ⟨r5, hE5⟩ := HP5.out.1.enc
            have eE := hE5.cell0
            have hlt5 := hE5.lt
            clear hE5
            have HW1 : Hid (Calls Tryz.prog 191 #[.pointer (some ⟨b, 0, none⟩), .int .u8 (hexd q1).toNat] w5.drew (fun e w' => e = .returned .nilIface ∧ LimPost B b g (((bs ++ 34 :: jqs (s.data.toList.take k)) ++ [92, 117, 48, 48]) ++ [hexd q1]) w5.drew w')) := Lib.hid (limByte_any w5.drew B b g _ (hexd q1) HP5.out.1.lim.drew (by have := HL6.out; simp only [List.length_append, List.length_cons, List.length_nil] at this ⊢; omega) HP5.out.1.lb HP5.out.1.lg HP5.out.1.le)
            go_wp2_with fail
            refine wp_region_S (Sf := Till 9 (fun W => W.cell? ⟨E, 0, none⟩ = some (.iface 86 (.pointer (some ⟨b, 0, none⟩)))) (fun _ => True)) (by kernel_rfl) ?_
            have eW : w5.drew.cell? ⟨E, 0, none⟩ = some (.iface 86 (.pointer (some ⟨b, 0, none⟩))) := eE
            clear eE
            refine till_take_R (i := 0) 59 (.pointer (some ⟨E, 0, none⟩)) rfl rfl (by kernel_rfl) (by kernel_rfl) (by kernel_rfl) (by decide) (fun _ _ _ h => h) (Or.inl ⟨by rfl, ?_⟩) ⟨eW, fun _ => trivial⟩ ?_
            · intro W hW; go_simp
            simp only [Act.put, List.setIfInBounds_toArray, List.set_cons_zero, List.set_cons_succ]
            refine till_take_R (i := 1) 60 (.pointer (some ⟨E, 0, none⟩)) rfl rfl (by kernel_rfl) (by kernel_rfl) (by kernel_rfl) (by decide) (fun _ _ _ h => h) (Or.inl ⟨by rfl, ?_⟩) ⟨eW, fun _ => trivial⟩ ?_
            · intro W hW; go_simp
            simp only [Act.put, List.setIfInBounds_toArray, List.set_cons_zero, List.set_cons_succ]
            refine till_take_R (i := 2) 61 (.pointer (some ⟨E, 0, none⟩)) rfl rfl (by kernel_rfl) (by kernel_rfl) (by kernel_rfl) (by decide) (fun _ _ _ h => h) (Or.inl ⟨by rfl, ?_⟩) ⟨eW, fun _ => trivial⟩ ?_
            · intro W hW; go_simp
            simp only [Act.put, List.setIfInBounds_toArray, List.set_cons_zero, List.set_cons_succ]
            refine till_take_R (i := 3) 62 (.iface 86 (.pointer (some ⟨b, 0, none⟩))) rfl rfl (by kernel_rfl) (by kernel_rfl) (by kernel_rfl) (by decide) (fun _ _ _ h => h) (Or.inl ⟨by rfl, ?_⟩) ⟨eW, fun _ => trivial⟩ ?_
            · intro W hW; go_simp
            simp only [Act.put, List.setIfInBounds_toArray, List.set_cons_zero, List.set_cons_succ]
            refine till_take_R (i := 4) 63 (.int .u8 c.toNat) rfl rfl (by kernel_rfl) (by kernel_rfl) (by kernel_rfl) (by decide) (fun _ _ _ h => h) (Or.inl ⟨by rfl, ?_⟩) ⟨eW, fun _ => trivial⟩ ?_
            · intro W hW; go_simp
            simp only [Act.put, List.setIfInBounds_toArray, List.set_cons_zero, List.set_cons_succ]
            refine till_take_R (i := 5) 64 (.int .u8 q1) rfl rfl (by kernel_rfl) (by kernel_rfl) (by kernel_rfl) (by decide) (fun _ _ _ h => h) (Or.inl ⟨by rfl, ?_⟩) ⟨eW, fun _ => trivial⟩ ?_
            · intro W hW; have hq1 := HQ.out.1; go_simp
            simp only [Act.put, List.setIfInBounds_toArray, List.set_cons_zero, List.set_cons_succ]
            refine till_take_R (i := 6) 65 (.int .u8 (hexd q1).toNat) rfl rfl (by kernel_rfl) (by kernel_rfl) (by kernel_rfl) (by decide) (fun _ _ _ h => h) (Or.inl ⟨by rfl, ?_⟩) ⟨eW, fun _ => trivial⟩ ?_
            · intro W hW; go_simp; rw [dif_pos (by omega), hex_get q1 hq1l]; rfl
            simp only [Act.put, List.setIfInBounds_toArray, List.set_cons_zero, List.set_cons_succ]
            refine till_take_R (i := 7) 66 (.iface 86 (.pointer (some ⟨b, 0, none⟩))) rfl rfl (by kernel_rfl) (by kernel_rfl) (by kernel_rfl) (by decide) (fun _ _ _ h => h) (Or.inl ⟨by rfl, ?_⟩) ⟨eW, fun _ => trivial⟩ ?_
            · intro W hW; go_simp
            simp only [Act.put, List.setIfInBounds_toArray, List.set_cons_zero, List.set_cons_succ]
            refine till_take_R (i := 8) 67 (.iface 86 (.pointer (some ⟨b, 0, none⟩))) rfl rfl (by kernel_rfl) (by kernel_rfl) (by kernel_rfl) (by decide) (fun _ _ _ h => h) (Or.inl ⟨by rfl, ?_⟩) ⟨eW, fun _ => trivial⟩ ?_
            · intro W hW; go_simp
            simp only [Act.put, List.setIfInBounds_toArray, List.set_cons_zero, List.set_cons_succ]
            refine anyS_ready (rs := [9]) (by kernel_rfl) (by simp) ?_
            refine AllS.cons rfl (fun K hK => ?_) AllS.nil
            go_simp
            refine HW1.out.mono ?_
            rintro e w6 ⟨rfl, hp⟩
            have HP6 := Lib.hid (HP5.out.1.drew.write hp)
            have eX : w6.cell? ⟨E, 0, none⟩ = some (.iface 86 (.pointer (some ⟨b, 0, none⟩))) := by obtain ⟨r4, h4⟩ := HP6.out.1.enc; exact h4.cell0
            clear hp
            refine hK.out _ _ ⟨eX, fun _ => trivial⟩ ?_
            clear hK K eX eW
            refine anyS_done (by kernel_rfl) ?_ _
            obtain ⟨r6, hE6⟩ := HP6.out.1.enc
            have eE := hE6.cell0
            have hlt6 := hE6.lt
            clear hE6
            have HW2 : Hid (Calls Tryz.prog 191 #[.pointer (some ⟨b, 0, none⟩), .int .u8 (hexd q2).toNat] w6.drew (fun e w' => e = .returned .nilIface ∧ LimPost B b g ((((bs ++ 34 :: jqs (s.data.toList.take k)) ++ [92, 117, 48, 48]) ++ [hexd q1]) ++ [hexd q2]) w6.drew w')) := Lib.hid (limByte_any w6.drew B b g _ (hexd q2) HP6.out.1.lim.drew (by have := HL6.out; simp only [List.length_append, List.length_cons, List.length_nil] at this ⊢; omega) HP6.out.1.lb HP6.out.1.lg HP6.out.1.le)
            go_wp2_with fail
            refine wp_region_S (Sf := Till 9 (fun W => W.cell? ⟨E, 0, none⟩ = some (.iface 86 (.pointer (some ⟨b, 0, none⟩)))) (fun _ => True)) (by kernel_rfl) ?_
            have eW : w6.drew.cell? ⟨E, 0, none⟩ = some (.iface 86 (.pointer (some ⟨b, 0, none⟩))) := eE
            clear eE
            refine till_take_R (i := 0) 69 (.pointer (some ⟨E, 0, none⟩)) rfl rfl (by kernel_rfl) (by kernel_rfl) (by kernel_rfl) (by decide) (fun _ _ _ h => h) (Or.inl ⟨by rfl, ?_⟩) ⟨eW, fun _ => trivial⟩ ?_
            · intro W hW; go_simp
            simp only [Act.put, List.setIfInBounds_toArray, List.set_cons_zero, List.set_cons_succ]
            refine till_take_R (i := 1) 70 (.pointer (some ⟨E, 0, none⟩)) rfl rfl (by kernel_rfl) (by kernel_rfl) (by kernel_rfl) (by decide) (fun _ _ _ h => h) (Or.inl ⟨by rfl, ?_⟩) ⟨eW, fun _ => trivial⟩ ?_
            · intro W hW; go_simp
            simp only [Act.put, List.setIfInBounds_toArray, List.set_cons_zero, List.set_cons_succ]
            refine till_take_R (i := 2) 71 (.pointer (some ⟨E, 0, none⟩)) rfl rfl (by kernel_rfl) (by kernel_rfl) (by kernel_rfl) (by decide) (fun _ _ _ h => h) (Or.inl ⟨by rfl, ?_⟩) ⟨eW, fun _ => trivial⟩ ?_
            · intro W hW; go_simp
            simp only [Act.put, List.setIfInBounds_toArray, List.set_cons_zero, List.set_cons_succ]
            refine till_take_R (i := 3) 72 (.iface 86 (.pointer (some ⟨b, 0, none⟩))) rfl rfl (by kernel_rfl) (by kernel_rfl) (by kernel_rfl) (by decide) (fun _ _ _ h => h) (Or.inl ⟨by rfl, ?_⟩) ⟨eW, fun _ => trivial⟩ ?_
            · intro W hW; go_simp
            simp only [Act.put, List.setIfInBounds_toArray, List.set_cons_zero, List.set_cons_succ]
            refine till_take_R (i := 4) 73 (.int .u8 c.toNat) rfl rfl (by kernel_rfl) (by kernel_rfl) (by kernel_rfl) (by decide) (fun _ _ _ h => h) (Or.inl ⟨by rfl, ?_⟩) ⟨eW, fun _ => trivial⟩ ?_
            · intro W hW; go_simp
            simp only [Act.put, List.setIfInBounds_toArray, List.set_cons_zero, List.set_cons_succ]
            refine till_take_R (i := 5) 74 (.int .u8 q2) rfl rfl (by kernel_rfl) (by kernel_rfl) (by kernel_rfl) (by decide) (fun _ _ _ h => h) (Or.inl ⟨by rfl, ?_⟩) ⟨eW, fun _ => trivial⟩ ?_
            · intro W hW; have hq2 := HQ.out.2; go_simp; exact (and15 ⟨c.toNat, c.toNat_lt⟩).trans (by simp)
            simp only [Act.put, List.setIfInBounds_toArray, List.set_cons_zero, List.set_cons_succ]
            refine till_take_R (i := 6) 75 (.int .u8 (hexd q2).toNat) rfl rfl (by kernel_rfl) (by kernel_rfl) (by kernel_rfl) (by decide) (fun _ _ _ h => h) (Or.inl ⟨by rfl, ?_⟩) ⟨eW, fun _ => trivial⟩ ?_
            · intro W hW; go_simp; rw [dif_pos (by omega), hex_get q2 hq2l]; rfl
            simp only [Act.put, List.setIfInBounds_toArray, List.set_cons_zero, List.set_cons_succ]
            refine till_take_R (i := 7) 76 (.iface 86 (.pointer (some ⟨b, 0, none⟩))) rfl rfl (by kernel_rfl) (by kernel_rfl) (by kernel_rfl) (by decide) (fun _ _ _ h => h) (Or.inl ⟨by rfl, ?_⟩) ⟨eW, fun _ => trivial⟩ ?_
            · intro W hW; go_simp
            simp only [Act.put, List.setIfInBounds_toArray, List.set_cons_zero, List.set_cons_succ]
            refine till_take_R (i := 8) 77 (.iface 86 (.pointer (some ⟨b, 0, none⟩))) rfl rfl (by kernel_rfl) (by kernel_rfl) (by kernel_rfl) (by decide) (fun _ _ _ h => h) (Or.inl ⟨by rfl, ?_⟩) ⟨eW, fun _ => trivial⟩ ?_
            · intro W hW; go_simp
            simp only [Act.put, List.setIfInBounds_toArray, List.set_cons_zero, List.set_cons_succ]
            refine anyS_ready (rs := [9]) (by kernel_rfl) (by simp) ?_
            refine AllS.cons rfl (fun K hK => ?_) AllS.nil
            go_simp
            refine HW2.out.mono ?_
            rintro e w7 ⟨rfl, hp⟩
            have HP7 := Lib.hid (HP6.out.1.drew.write hp)
            have eX : w7.cell? ⟨E, 0, none⟩ = some (.iface 86 (.pointer (some ⟨b, 0, none⟩))) := by obtain ⟨r4, h4⟩ := HP7.out.1.enc; exact h4.cell0
            clear hp
            refine hK.out _ _ ⟨eX, fun _ => trivial⟩ ?_
            clear hK K eX eW
            refine anyS_done (by kernel_rfl) ?_ _
            go_wp2_with fail
            refine ⟨⟨k + 1, k + 1, Nat.le_refl _, by omega, by simp, by simp, Lib.hid ⟨?_, HCU.out.2.trans (HP5.out.2.drew.trans (HP6.out.2.drew.trans HP7.out.2)), HNX.out, Plain.nil _ _⟩⟩, by simp [intOf]; omega⟩
            have := HP7.out.1
            rw [HJ.out, HJ1.out]
            simp only [List.append_assoc, List.cons_append] at this ⊢
            exact this
        -- ]]
      have n32 : (32 : Int) ≤ (c.toNat : Int) := by omega
      have hn127 : c.toNat ≠ 127 := fun e => h127 (UInt8.toNat.inj (by simpa using e))
      by_cases h128 : c.toNat < 128
      · have hj := jq1_plain (c := c) (by omega) (by omega) h34 h92
        have n126 : (c.toNat : Int) ≤ 126 := by omega
        have n128 : (c.toNat : Int) < 128 := by omega
        have m34 : ((c.toNat : Int) != 34) = true := by simpa using n34
        have m92 : ((c.toNat : Int) != 92) = true := by simpa using n92
        have HJ := Lib.hid hj
        have HNX := Lib.hid (valid_next s k c HCC.out h128 HR.out.2.2.1)
        clear h34 h92 h8 h12 h10 h13 h9 h127 hn127 hj n34 n92 n8 n12 n10 n13 n9 n127
        -- [[
        as_aux_lemma =>
          go_wp2_with fail
          refine ⟨⟨a, k + 1, by omega, by omega, rfl, by simp, Lib.hid ⟨HR.out.1, HR.out.2.1, HNX.out, HR.out.2.2.2.more fun j d h1 h2 h3 => ?_⟩⟩, by simp [intOf]; omega⟩
          obtain rfl : j = k := by omega
          rw [HCC.out] at h3
          obtain rfl : c = d := Option.some.inj h3
          exact HJ.out
        -- ]]
      · have n128 : ¬ (c.toNat : Int) < 128 := by omega
        obtain ⟨rn, wd, hgo, hw2, hwk, hvn, hpl⟩ := rune_step s k c HCC.out (by omega) HR.out.2.2.1
        have HX := Lib.hid (And.intro hvn hpl)
        have hdc := HDE.out (s.extract k s.size) wr (HTB.out _ HR.out.2.1)
        rw [hgo] at hdc
        have HDC := Lib.hid hdc
        have hw1 : ((wd : Int) == 1) = false := by rw [beq_eq_false_iff_ne]; omega
        clear h34 h92 h8 h12 h10 h13 h9 h127 hn127 n34 n92 n8 n12 n10 n13 n9 n127 hgo hvn hpl hdc
        -- [[
        as_aux_lemma =>
          go_wp2_with fail
          refine HDC.out.mono ?_
          rintro e w2 ⟨rfl, hb2⟩
          have HB2 := Lib.hid (And.intro (HR.out.1.grow hb2) (HR.out.2.1.trans (KB.of hb2 HR.out.1.le)))
          clear hb2 eE hltE
          obtain ⟨rb, hrb⟩ : ∃ rb, rb = ((rn : Int) == 65533) := ⟨_, rfl⟩
          cases rb with
          | true =>
            have hrt := hrb.symm
            clear hrb
            go_wp2_with fail
            refine ⟨⟨a, k + wd, by omega, by omega, rfl, by simp, Lib.hid ⟨HB2.out.1, HB2.out.2, HX.out.1, HR.out.2.2.2.more HX.out.2⟩⟩, by simp [intOf]; omega⟩
          | false =>
            have hrt := hrb.symm
            clear hrb
            go_wp2_with fail
            refine ⟨⟨a, k + wd, by omega, by omega, rfl, by simp, Lib.hid ⟨HB2.out.1, HB2.out.2, HX.out.1, HR.out.2.2.2.more HX.out.2⟩⟩, by simp [intOf]; omega⟩
        -- ]]
    · have hks : (k : Int) = (s.size : Int) := by omega
      have HE1 : Hid (s.data.toList.take k = s.data.toList) := Lib.hid (List.take_of_length_le (by have := HSZ.out; omega))
      have HLE2 : Hid ((bs ++ 34 :: jqs s.data.toList).length < 31) := Lib.hid (by have := HL.out; simp only [List.length_append, List.length_cons]; omega)
      by_cases hf : a < s.size
      · have hfz : (a : Int) < (s.size : Int) := by omega
        have hx : s.extract a s.size = strL (mid s.data.toList a k) := by rw [show s.size = k by omega]; exact mid_extract s a k
        have HWR := Lib.hid (limStr_any wr.drew B b g _ (mid s.data.toList a k) HR.out.1.lim.drew (HLEN.out a k hak hk HR.out.2.2.2) HR.out.1.lb HR.out.1.lg HR.out.1.le)
        -- [[
        as_aux_lemma =>
          go_wp2_with fail
          refine wp_region_S (Sf := Till 9 (fun W => W.cell? ⟨E, 0, none⟩ = some (.iface 86 (.pointer (some ⟨b, 0, none⟩)))) (fun _ => True)) (by kernel_rfl) ?_
          have eW : wr.drew.cell? ⟨E, 0, none⟩ = some (.iface 86 (.pointer (some ⟨b, 0, none⟩))) := eE
          clear eE
          refine till_take_R (i := 0) 174 (.pointer (some ⟨E, 0, none⟩)) rfl rfl (by kernel_rfl) (by kernel_rfl) (by kernel_rfl) (by decide) (fun _ _ _ h => h) (Or.inl ⟨by rfl, ?_⟩) ⟨eW, fun _ => trivial⟩ ?_
          · intro W hW; go_simp
          simp only [Act.put, List.setIfInBounds_toArray, List.set_cons_zero, List.set_cons_succ]
          refine till_take_R (i := 1) 175 (.pointer (some ⟨E, 0, none⟩)) rfl rfl (by kernel_rfl) (by kernel_rfl) (by kernel_rfl) (by decide) (fun _ _ _ h => h) (Or.inl ⟨by rfl, ?_⟩) ⟨eW, fun _ => trivial⟩ ?_
          · intro W hW; go_simp
          simp only [Act.put, List.setIfInBounds_toArray, List.set_cons_zero, List.set_cons_succ]
          refine till_take_R (i := 2) 176 (.pointer (some ⟨E, 0, none⟩)) rfl rfl (by kernel_rfl) (by kernel_rfl) (by kernel_rfl) (by decide) (fun _ _ _ h => h) (Or.inl ⟨by rfl, ?_⟩) ⟨eW, fun _ => trivial⟩ ?_
          · intro W hW; go_simp
          simp only [Act.put, List.setIfInBounds_toArray, List.set_cons_zero, List.set_cons_succ]
          refine till_take_R (i := 3) 177 (.iface 86 (.pointer (some ⟨b, 0, none⟩))) rfl rfl (by kernel_rfl) (by kernel_rfl) (by kernel_rfl) (by decide) (fun _ _ _ h => h) (Or.inl ⟨by rfl, ?_⟩) ⟨eW, fun _ => trivial⟩ ?_
          · intro W hW; go_simp
          simp only [Act.put, List.setIfInBounds_toArray, List.set_cons_zero, List.set_cons_succ]
          refine till_take_R (i := 4) 178 (.string s) rfl rfl (by kernel_rfl) (by kernel_rfl) (by kernel_rfl) (by decide) (fun _ _ _ h => h) (Or.inl ⟨by rfl, ?_⟩) ⟨eW, fun _ => trivial⟩ ?_
          · intro W hW; go_simp
          simp only [Act.put, List.setIfInBounds_toArray, List.set_cons_zero, List.set_cons_succ]
          refine till_take_R (i := 5) 179 (.int .i64 a) rfl rfl (by kernel_rfl) (by kernel_rfl) (by kernel_rfl) (by decide) (fun _ _ _ h => h) (Or.inl ⟨by rfl, ?_⟩) ⟨eW, fun _ => trivial⟩ ?_
          · intro W hW; go_simp
          simp only [Act.put, List.setIfInBounds_toArray, List.set_cons_zero, List.set_cons_succ]
          refine till_take_R (i := 6) 180 (.string (strL (mid s.data.toList a k))) rfl rfl (by kernel_rfl) (by kernel_rfl) (by kernel_rfl) (by decide) (fun _ _ _ h => h) (Or.inl ⟨by rfl, ?_⟩) ⟨eW, fun _ => trivial⟩ ?_
          · intro W hW; go_simp; intros; omega
          simp only [Act.put, List.setIfInBounds_toArray, List.set_cons_zero, List.set_cons_succ]
          refine till_take_R (i := 7) 181 (.iface 86 (.pointer (some ⟨b, 0, none⟩))) rfl rfl (by kernel_rfl) (by kernel_rfl) (by kernel_rfl) (by decide) (fun _ _ _ h => h) (Or.inl ⟨by rfl, ?_⟩) ⟨eW, fun _ => trivial⟩ ?_
          · intro W hW; go_simp
          simp only [Act.put, List.setIfInBounds_toArray, List.set_cons_zero, List.set_cons_succ]
          refine till_take_R (i := 8) 182 (.iface 86 (.pointer (some ⟨b, 0, none⟩))) rfl rfl (by kernel_rfl) (by kernel_rfl) (by kernel_rfl) (by decide) (fun _ _ _ h => h) (Or.inl ⟨by rfl, ?_⟩) ⟨eW, fun _ => trivial⟩ ?_
          · intro W hW; go_simp
          simp only [Act.put, List.setIfInBounds_toArray, List.set_cons_zero, List.set_cons_succ]
          refine anyS_ready (rs := [9]) (by kernel_rfl) (by simp) ?_
          refine AllS.cons rfl (fun K hK => ?_) AllS.nil
          go_simp
          refine HWR.out.mono ?_
          rintro e w4 ⟨rfl, hp⟩
          have HP := Lib.hid ((HR.out.1.drew).write hp)
          have eX : w4.cell? ⟨E, 0, none⟩ = some (.iface 86 (.pointer (some ⟨b, 0, none⟩))) := by obtain ⟨r4, h4⟩ := HP.out.1.enc; exact h4.cell0
          clear hp
          refine hK.out _ _ ⟨eX, fun _ => trivial⟩ ?_
          clear hK K eX eW
          refine anyS_done (by kernel_rfl) ?_ _
          have HP2 : Hid (StL w4 B b g E (bs ++ 34 :: jqs s.data.toList) ∧ KB B b g E w w4) := Lib.hid (by
            have h1 := HP.out.1
            rw [List.append_assoc, List.cons_append, ← HR.out.2.2.2.app hak, HE1.out] at h1
            exact ⟨h1, HR.out.2.1.drew.trans HP.out.2⟩)
          obtain ⟨r4, hE4⟩ := HP2.out.1.enc
          have eE := hE4.cell0
          have hlt4 := hE4.lt
          clear hE4
          have HWQ : Hid (Calls Tryz.prog 191 #[.pointer (some ⟨b, 0, none⟩), .int .u8 34] w4 (fun e w' => e = .returned .nilIface ∧ LimPost B b g ((bs ++ 34 :: jqs s.data.toList) ++ [34]) w4 w')) := Lib.hid (limByte_any w4 B b g _ 34 HP2.out.1.lim HLE2.out HP2.out.1.lb HP2.out.1.lg HP2.out.1.le)
          go_wp2_with fail
          refine HWQ.out.mono ?_
          rintro e w5 ⟨rfl, hp⟩
          have HP5 := Lib.hid (HP2.out.1.write hp)
          clear hp
          go_wp2_with fail
          go_end0
          refine ⟨rfl, ?_, HP2.out.2.trans HP5.out.2⟩
          have := HP5.out.1
          rw [List.append_assoc, List.cons_append] at this
          exact this
        -- ]]
      · have hfz : ¬ (a : Int) < (s.size : Int) := by omega
        have HP2 : Hid (StL wr B b g E (bs ++ 34 :: jqs s.data.toList) ∧ KB B b g E w wr) := Lib.hid (by
          obtain rfl : a = k := by omega
          have h1 := HR.out.1
          rw [HE1.out] at h1
          exact ⟨h1, HR.out.2.1⟩)
        have HWQ : Hid (Calls Tryz.prog 191 #[.pointer (some ⟨b, 0, none⟩), .int .u8 34] wr (fun e w' => e = .returned .nilIface ∧ LimPost B b g ((bs ++ 34 :: jqs s.data.toList) ++ [34]) wr w')) := Lib.hid (limByte_any wr B b g _ 34 HP2.out.1.lim HLE2.out HP2.out.1.lb HP2.out.1.lg HP2.out.1.le)
        -- [[
        as_aux_lemma =>
          go_wp2_with fail
          refine HWQ.out.mono ?_
          rintro e w5 ⟨rfl, hp⟩
          have HP5 := Lib.hid (HP2.out.1.write hp)
          clear hp
          go_wp2_with fail
          go_end0
          refine ⟨rfl, ?_, HP2.out.2.trans HP5.out.2⟩
          have := HP5.out.1
          rw [List.append_assoc, List.cons_append] at this
          exact this
        -- ]]
end Go.Proofs.YtpigccnlembfdaaGreatDoor
