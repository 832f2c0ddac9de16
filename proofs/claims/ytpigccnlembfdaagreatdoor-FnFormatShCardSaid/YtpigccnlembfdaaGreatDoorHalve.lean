/- The walks of a decimal's half and shift: division by a power of two. Conditions: as each theorem states. -/
import Derived.Test.YtpigccnlembfdaaGreatDoorDecNew
import Derived.Laws.ShiftsVarLaws
import Derived.Laws.BitsAllLaws
namespace Go.Proofs.YtpigccnlembfdaaGreatDoor
open Go.RowKit

/-- What half leaves. -/
def HalfPost (p : Nat) (A B : Nat) (w : World) (e : Ending) (w' : World) : Prop := e = .returned (.tuple #[]) ∧ w.grownBy w' (some p) ∧
  ∃ L dp v, DecAt w' p L dp v ∧ Dm L dp A B ∧ L.length ≤ 200 ∧ dp ≤ 2000 ∧ -2000 ≤ dp ∧ ∀ g, v.ownBlock = some g → w.heap.size ≤ g
theorem pow_le59 {k : Nat} (h : k ≤ 59) : 2 ^ k ≤ 576460752303423488 := by
  have : 2 ^ k ≤ 2 ^ 59 := Nat.pow_le_pow_right (by decide) h
  simpa using this
theorem mask_low (m k : Nat) (hk : k ≤ 59) (hm : m < 18446744073709551616) : bits BinOp.and IntKind.u64 (m : Int) (IntKind.u64.wrap (IntKind.u64.wrap ((2 : Int) ^ k) - 1)) = ((m % 2 ^ k : Nat) : Int) := by
  have h1 := pow_le59 hk
  have h2 : 0 < 2 ^ k := Nat.pow_pos (by decide)
  have e1 : ((2 : Int) ^ k) = ((2 ^ k : Nat) : Int) := by simp
  have e2 : IntKind.u64.wrap ((2 ^ k : Nat) : Int) = ((2 ^ k : Nat) : Int) := IntWalk.u64_in _ (by omega)
  have e3 : ((2 ^ k : Nat) : Int) - 1 = ((2 ^ k - 1 : Nat) : Int) := by omega
  have e4 : IntKind.u64.wrap ((2 ^ k - 1 : Nat) : Int) = ((2 ^ k - 1 : Nat) : Int) := IntWalk.u64_in _ (by omega)
  rw [e1, e2, e3, e4, bits_and_u64_nat _ _ hm (by omega), Nat.and_two_pow_sub_one_eq_mod]
theorem half_next (m k d : Nat) (hk : k ≤ 59) (hm : m < 18446744073709551616) (hd : d < 10) :
    IntKind.u64.wrap (IntKind.u64.wrap (bits BinOp.and IntKind.u64 (m : Int) (IntKind.u64.wrap (IntKind.u64.wrap ((2 : Int) ^ k) - 1)) * 10) + (d : Int)) = ((m % 2 ^ k * 10 + d : Nat) : Int) := by
  have h1 := pow_le59 hk
  have h3 := Nat.mod_lt m (show 0 < 2 ^ k from Nat.pow_pos (by decide))
  rw [mask_low m k hk hm]
  generalize m % 2 ^ k = r at *
  have e5 : IntKind.u64.wrap ((r : Int) * 10) = (r : Int) * 10 := IntWalk.u64_in _ (by omega)
  rw [e5, IntWalk.u64_in _ (by omega)]
  omega
theorem half_next0 (m k : Nat) (hk : k ≤ 59) (hm : m < 18446744073709551616) :
    IntKind.u64.wrap (bits BinOp.and IntKind.u64 (m : Int) (IntKind.u64.wrap (IntKind.u64.wrap ((2 : Int) ^ k) - 1)) * 10) = ((m % 2 ^ k * 10 : Nat) : Int) := by
  have h1 := pow_le59 hk
  have h3 := Nat.mod_lt m (show 0 < 2 ^ k from Nat.pow_pos (by decide))
  rw [mask_low m k hk hm]
  rw [IntWalk.u64_in _ (by omega)]
  omega
set_option maxRecDepth 100000 in
set_option maxHeartbeats 4000000 in
theorem half_any (w : World) (p : Nat) (L : List Nat) (dp : Int) (v : Value) (A B k : Nat) (h : DecAt w p L dp v) (hm : Dm L dp A B) (hL : L.length ≤ 20) (hdp : dp ≤ 1000) (hdp2 : -1000 ≤ dp) (hk : k ≤ 59) (hA : 0 < A) :
    Calls Tryz.prog 155 #[.pointer (some ⟨p, 0, none⟩), .int .i64 k] w (HalfPost p A (B * 2 ^ k) w) := by
  obtain ⟨hb, hd, hap⟩ := h
  obtain ⟨AA, c, rfl, hc, hx⟩ := hd
  obtain ⟨g, rfl, hglt, hcell⟩ := hx hm.ne
  have hgp : g ≠ p := hap hm.ne g rfl
  obtain ⟨n, hn⟩ : ∃ n, n = L.length := ⟨_, rfl⟩
  obtain ⟨z, hz⟩ : ∃ z, z = 2 ^ k := ⟨_, rfl⟩
  have hz59 : z ≤ 576460752303423488 := by rw [hz]; exact pow_le59 hk
  have hzpos : 0 < z := by rw [hz]; exact Nat.pow_pos (by decide)
  rw [← hn] at hc hL hb
  have c0 := hb.cell0
  have c1 := hb.cell1
  have f1 := hb.frozen 1
  have f0 := hb.frozen 0
  have hltp := hb.lt
  have HN := Lib.hid hn
  have HB := Lib.hid hb
  have HM := Lib.hid hm
  have HZ := Lib.hid hz
  have HC := Lib.hid (And.intro hcell (And.intro hgp hglt))
  clear hx hap hn hm hz hcell hb
  go_enter Tryz.func155, Tryz.ntmps155
  go_wp2_with fail
  go_loop [4, 5] (fun nv iv => ∃ m i : Nat, nv = .int .u64 m ∧ iv = .int .i64 i ∧ i ≤ 20 ∧ m < 10 * z ∧ Hid (m = pn L i ∧ (i = 0 ∨ pn L (i - 1) < z))) (fun _ iv => 21 - (intOf iv).toNat)
  case atStart => exact ⟨0, 0, rfl, rfl, by decide, by omega, Lib.hid ⟨(pn_zero L).symm, Or.inl rfl⟩⟩
  case round =>
    obtain ⟨m, i, rfl, rfl, hi, hm10, HF⟩ := hrel
    have hmp := HF.out.1
    have hz2 : ((2 : Int) ^ k) = (z : Int) := by rw [HZ.out]; simp
    by_cases hlt : m < z
    · have e1 : ((m : Int) / 2 ^ k == 0) = true := by
        rw [hz2, beq_iff_eq]
        have : m / z = 0 := Nat.div_eq_of_lt hlt
        omega
      have hm59 : m ≤ 576460752303423488 := by omega
      have hi18 : i ≤ 18 := by
        by_cases h0 : i = 0
        · omega
        · have h1 := pn_pos HM.out.headed HM.out.ne (i := i) (by omega)
          rw [← hmp] at h1
          refine Nat.le_of_not_lt fun h2 => ?_
          have h3 : 10 ^ 18 ≤ 10 ^ (i - 1) := Nat.pow_le_pow_right (by decide) (by omega)
          have h4 : (10 : Nat) ^ 18 = 1000000000000000000 := by decide
          omega
      have hsucc := pn_succ L i
      rw [← hmp] at hsucc
      have hlt' := hlt
      rw [hmp] at hlt'
      by_cases hin : i < n
      · obtain ⟨d, hd⟩ : ∃ d, L[i]? = some d := ⟨_, List.getElem?_eq_getElem (by have := HN.out; omega)⟩
        have hd10 := HM.out.ten d (List.mem_of_getElem? hd)
        have d0 := HC.out.1 i d hd
        rw [List.getD_eq_getElem?_getD, hd] at hsucc
        have HS := Lib.hid hsucc
        have HLT := Lib.hid hlt'
        clear hsucc hd hz2 hmp hlt'
        go_wp2_with fail
        refine ⟨⟨m * 10 + d, i + 1, by simp, by simp, by omega, by omega, Lib.hid ⟨HS.out.symm, Or.inr HLT.out⟩⟩, by simp [intOf]; omega⟩
      · have hm0 : ((m : Int) == 0) = false := by
          rw [beq_eq_false_iff_ne]
          have h1 := pn_pos HM.out.headed HM.out.ne (i := i) (by have := HN.out; have := List.length_pos_iff.2 HM.out.ne; omega)
          have h2 : 0 < 10 ^ (i - 1) := Nat.pow_pos (by decide)
          omega
        rw [List.getD_eq_getElem?_getD, List.getElem?_eq_none (by have := HN.out; omega)] at hsucc
        have HS := Lib.hid hsucc
        have HLT := Lib.hid hlt'
        clear hsucc hz2 hmp hlt'
        go_wp2_with fail
        refine ⟨⟨m * 10, i + 1, by simp, by simp, by omega, by omega, Lib.hid ⟨by have := HS.out; simpa using this.symm, Or.inr HLT.out⟩⟩, by simp [intOf]; omega⟩
    · have e1 : ((m : Int) / 2 ^ k == 0) = false := by
        rw [hz2, beq_eq_false_iff_ne]
        have : 1 ≤ m / z := (Nat.le_div_iff_mul_le hzpos).2 (by omega)
        omega
      have hi0 : i ≠ 0 := by
        rintro rfl
        rw [pn_zero] at hmp
        omega
      obtain ⟨i1, rfl⟩ : ∃ i1, i = i1 + 1 := ⟨i - 1, by omega⟩
      have hstart : Hv L k (i1 + 1) (i1 + 1) m [] := by
        rw [hmp]
        refine Hv.start HM.out.ten ?_ ?_
        · rcases HF.out.2 with h | h
          · omega
          · rw [← HZ.out]; exact h
        · rw [← HZ.out, ← hmp]; omega
      have HST := Lib.hid hstart
      clear hstart hz2 hmp hi0 hlt
      go_wp2_with fail
      go_loopw [4, 5, 6] (fun nv iv ov wr => ∃ (m i : Nat) (O : List Nat) (v : Value), v = ov ∧ nv = .int .u64 m ∧ iv = .int .i64 i ∧ i ≤ 90 ∧ m < 10 * z ∧ Hid (Hv L k (i1 + 1) i m O ∧ w.grownBy wr (some p) ∧ DBox wr p (.slice (some ⟨g, 0, none⟩) n c) (dp - i1) ∧ wr.ownsRow w.heap.size 5 1 v O.length (encN O))) (fun _ iv _ _ => 91 - (intOf iv).toNat)
      case atStart =>
        refine ⟨m, i1 + 1, [], _, rfl, rfl, by simp, by omega, hm10, Lib.hid ⟨HST.out, grown_cell _ _ _ _, ?_, World.ownsRow_nil _ _ _ _⟩⟩
        exact HB.out.set1 _
      case round =>
        obtain ⟨m, i, O, v, rfl, rfl, rfl, hi90, hm10, HG⟩ := hrel
        obtain ⟨wz, hwz⟩ : ∃ x, x = wr := ⟨_, rfl⟩
        subst hwz
        obtain ⟨hHv, hgr, hbx, hown⟩ := HG.out
        have hbd := hHv.bound
        have hat := hHv.at_
        have c0 := hbx.cell0
        have f0 := hbx.frozen 0
        have hltp := hbx.lt
        have hszr := hgr.size
        have hz2 : ((2 : Int) ^ k) = (z : Int) := by rw [HZ.out]; simp
        obtain ⟨A', c', rfl⟩ := (digAt_own hown).1.shape
        have hvlt := hown.lt
        by_cases hgo : i < n ∨ 0 < m
        · have hi83 := hbd (by rcases hgo with h | h; left; rw [← HN.out]; exact h; right; exact h)
          rw [← HN.out] at hi83
          obtain ⟨q, hq⟩ : ∃ q, q = m / z := ⟨_, rfl⟩
          obtain ⟨r, hr⟩ : ∃ r, r = m % z := ⟨_, rfl⟩
          have hq10 : q < 10 := by rw [hq]; exact Nat.div_lt_of_lt_mul (by rw [Nat.mul_comm]; exact hm10)
          have hr59 : r < 576460752303423488 := by have := Nat.mod_lt m hzpos; omega
          have hqz : (m : Int) / 2 ^ k = (q : Int) := by rw [hz2, hq]; simp
          have hO : O.length ≤ 90 := by omega
          obtain ⟨i5, hi, he⟩ := Option.map_eq_some_iff.1 info_u8
          have hz0 : i5.zero = some (.int .u8 0) := congrArg (·.1) he
          have hz1 : i5.size = 1 := congrArg (·.2.1) he
          have hzz2 : i5.bytes = 1 := congrArg (·.2.2) he
          have HQ := Lib.hid (And.intro hq hr)
          have HZ2 := Lib.hid hz2
          clear he hat hbd hq hr hz2 hHv hgr
          by_cases hin : i < n
          · obtain ⟨d, hd⟩ : ∃ d, L[i]? = some d := ⟨_, List.getElem?_eq_getElem (by have := HN.out; omega)⟩
            have hd10 := HM.out.ten d (List.mem_of_getElem? hd)
            have d0 : wz.cell? ⟨g, i, none⟩ = some (.int .u8 d) := (World.cell?_of_block (HG.out.2.1.block g HC.out.2.2 (fun e => HC.out.2.1 (Option.some.inj e)))).trans (HC.out.1 i d hd)
            have HD := Lib.hid hd
            clear hd
            go_wp2_with (at_builtin; refine wpList_append_lies _ rfl _ _ 72 rfl w.heap.size 5 i5 (.int .u8 0) 1 1 Tryz.underlying72 hi hz0 hz1 hzz2 rfl (by decide) (.slice A' O.length c') O.length (encN O) rfl (hown.alloc _) ⟨wz.heap.size, 0, none⟩ 1 1 [.int .u8 q] rfl rfl (fun j u hj => ?_) (by simp [Value.oneCell']) (by decide) (by unfold maxLen; omega) (by omega) (by simp; omega) (wz.heap.size + 1) (by simp) ?_)
            · obtain rfl : j = 0 := by rcases j with _ | j; rfl; simp at hj
              obtain rfl : Value.int .u8 q = u := by simpa using hj
              exact cell_of_row _ wz.heap.size 0 _ _ _ (heap_alloc_new wz _)
            intro g' cap w5 hown5 hg5 _ hlt5
            have hb5 := (hbx.below ((Below.refl _ wz).alloc (Nat.le_refl _) _)).keep hg5 (fun e => by have := (hvlt _ e.symm).1; have := HB.out.lt; omega)
            have c5 := hb5.cell0
            clear c0
            have d5 : w5.cell? ⟨g, i, none⟩ = some (.int .u8 d) := (World.cell?_of_block ((hg5.block g (by simp; have := HC.out.2.2; omega) (fun e => by have := (hvlt _ e.symm).1; have := HC.out.2.2; omega)).trans (Below.heap_alloc wz _ g (by have := HC.out.2.2; omega)))).trans d0
            clear d0
            have hgr5 := grown_more (grown_more HG.out.2.1 (grown_of_below ((Below.refl _ wz).alloc (Nat.le_refl _) _) none) (fun k hk => by cases hk)) hg5 (fun k hk => Or.inl (hvlt k hk).1)
            have hHv5 := HG.out.1.step HM.out.ten
            rw [← HZ.out, ← HQ.out.1, ← HQ.out.2] at hHv5
            have H5 := Lib.hid (And.intro hgr5 (And.intro hHv5 (And.intro hb5 hown5)))
            clear hgr5 hHv5 hb5 hown5 hg5
            go_wp2_with fail
            rw [half_next m k d hk (by omega) hd10, ← HZ.out, ← HQ.out.2]
            refine ⟨⟨r * 10 + d, i + 1, O ++ [q], _, rfl, rfl, by simp, by omega, ?_, Lib.hid ⟨?_, H5.out.1, H5.out.2.2.1, ?_⟩⟩, by simp [intOf]; omega⟩
            · have := Nat.mod_lt m hzpos
              have := HQ.out.2
              omega
            · have h := H5.out.2.1
              rw [List.getD_eq_getElem?_getD, HD.out] at h
              exact h
            · have h := H5.out.2.2.2
              rw [encN_append, List.length_append]
              exact h
          · have hm0 : 0 < m := by rcases hgo with h | h; exact absurd h hin; exact h
            have hin2 : ¬ ((i : Int) < (n : Int)) := by omega
            have hm0z : (0 : Int) < (m : Int) := by omega
            have hin3 : decide ((i : Int) < (n : Int)) = false := by simpa using hin
            go_wp2_with (at_builtin; refine wpList_append_lies _ rfl _ _ 72 rfl w.heap.size 5 i5 (.int .u8 0) 1 1 Tryz.underlying72 hi hz0 hz1 hzz2 rfl (by decide) (.slice A' O.length c') O.length (encN O) rfl (hown.alloc _) ⟨wz.heap.size, 0, none⟩ 1 1 [.int .u8 q] rfl rfl (fun j u hj => ?_) (by simp [Value.oneCell']) (by decide) (by unfold maxLen; omega) (by omega) (by simp; omega) (wz.heap.size + 1) (by simp) ?_)
            intro g' cap w5 hown5 hg5 _ hlt5
            have hb5 := (hbx.below ((Below.refl _ wz).alloc (Nat.le_refl _) _)).keep hg5 (fun e => by have := (hvlt _ e.symm).1; have := HB.out.lt; omega)
            have c5 := hb5.cell0
            clear c0
            have hgr5 := grown_more (grown_more HG.out.2.1 (grown_of_below ((Below.refl _ wz).alloc (Nat.le_refl _) _) none) (fun k hk => by cases hk)) hg5 (fun k hk => Or.inl (hvlt k hk).1)
            have hHv5 := HG.out.1.step HM.out.ten
            rw [← HZ.out, ← HQ.out.1, ← HQ.out.2] at hHv5
            have H5 := Lib.hid (And.intro hgr5 (And.intro hHv5 (And.intro hb5 hown5)))
            clear hgr5 hHv5 hb5 hown5 hg5
            go_wp2_with fail
            rw [half_next0 m k hk (by omega), ← HZ.out, ← HQ.out.2]
            refine ⟨⟨r * 10, i + 1, O ++ [q], _, rfl, rfl, by simp, by omega, ?_, Lib.hid ⟨?_, H5.out.1, H5.out.2.2.1, ?_⟩⟩, by simp [intOf]; omega⟩
            · have := Nat.mod_lt m hzpos
              have := HQ.out.2
              omega
            · have h := H5.out.2.1
              rw [List.getD_eq_getElem?_getD, List.getElem?_eq_none (by have := HN.out; omega)] at h
              exact h
            · have h := H5.out.2.2.2
              rw [encN_append, List.length_append]
              exact h
        · have hin : ¬ (i < n) := fun h => hgo (Or.inl h)
          have hm0 : m = 0 := by
            refine Classical.byContradiction fun h => hgo (Or.inr (Nat.pos_of_ne_zero h))
          subst hm0
          have hin2 : ¬ ((i : Int) < (n : Int)) := by omega
          have hdone := hHv.done (by have := HN.out; omega) rfl HM.out.dec
          obtain ⟨hdig, hob⟩ := digAt_own hown
          have hgr2 := hgr.trans (grown_cell wz p 0 (.slice A' O.length c'))
          have hDec : DecAt (wz.setCell ⟨p, 0, none⟩ (.slice A' O.length c')) p O (dp - i1) (.slice A' O.length c') := ⟨hbx.set0 _, hdig.grown (grown_cell _ _ _ _) (fun _ g hg e => by have := hob g hg; have := HB.out.lt; injection e; omega), fun _ g hg e => by have := hob g hg; have := HB.out.lt; omega⟩
          have hOl : O.length ≤ 90 := by omega
          have HT := Lib.hid (trim_any _ _ _ _ _ hDec (by omega))
          have HE := Lib.hid (And.intro hgr2 (And.intro hdone (And.intro hHv.ten (And.intro hHv.headed hob))))
          have HOL := Lib.hid (And.intro hOl hat)
          have hi1 : i1 ≤ 90 := by omega
          clear hdone hdig hgr2 hDec hHv hgr hbd hat hown hob hvlt hOl hz2
          go_wp2_with fail
          refine HT.out.mono ?_
          rintro e w6 ⟨rfl, hg6, j, v', hj, hLL, hla, hob', hdec⟩
          have H6 := Lib.hid (And.intro (HE.out.1.trans hg6) (And.intro hj (And.intro hLL (And.intro hla (And.intro hob' hdec)))))
          clear hg6 hj hLL hla hob' hdec HT
          go_wp2_with fail
          go_end0
          obtain ⟨hgr6, hj, hLL, hla, hob', hdec⟩ := H6.out
          obtain ⟨_, hdone, hten, hhead, hob⟩ := HE.out
          have hne : O.take j ≠ [] := by
            intro e
            rw [e, List.nil_append] at hLL
            have h2 : ∀ z : Nat, num (List.replicate z 0) = 0 := fun z => by
              induction z with
              | zero => rfl
              | succ z ih => rw [List.replicate_succ', num_snoc, ih]
            obtain ⟨p', q', h3, _⟩ := hdone
            rw [hLL, h2, Nat.zero_mul, Nat.zero_mul] at h3
            have := Nat.mul_pos hA (pow_pos10 q')
            omega
          rw [if_neg hne] at hdec
          refine ⟨rfl, hgr6, O.take j, _, v', hdec, ⟨fun d hd => hten d (List.mem_of_mem_take hd), fun d hd => ?_, hla, hne, ?_⟩, ?_, ?_, ?_, fun g' hg' => ?_⟩
          · refine hhead d ?_
            rwa [List.getElem?_take_of_lt (by
              have := List.length_pos_iff.2 hne
              rw [List.length_take] at this; omega)] at hd
          · rw [hLL] at hdone
            have h3 := hdone.trimN
            rw [show (((i1 + 1 : Nat) : Int) - 1) = (i1 : Int) by omega] at h3
            exact h3
          · rw [List.length_take]; have := HOL.out.1; omega
          · omega
          · omega
          · rw [hob'] at hg'
            exact hob g' hg'
end Go.Proofs.YtpigccnlembfdaaGreatDoor
