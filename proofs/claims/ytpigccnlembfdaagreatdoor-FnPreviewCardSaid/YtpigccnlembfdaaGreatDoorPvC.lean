/- Halving and comparing decimals; rounding down. Conditions: as each theorem states. -/
import Derived.Test.YtpigccnlembfdaaGreatDoorPvB
import Derived.Laws.ShiftsVarLaws
import Derived.Laws.BitsAllLaws
import Derived.Deep.RegionHeld3
import Derived.Lib.Hide

/- The walks of a decimal's half and shift: division by a power of two. Conditions: as each theorem states. -/
namespace Go.Proofs.YtpigccnlembfdaaGreatDoor
open Go.RowKit

/-- What half leaves. -/
def HalfPost (p : Nat) (A B : Nat) (w : World) (e : Ending) (w' : World) : Prop := e = .returned (.tuple #[]) ∧ w.grownBy w' (some p) ∧
  ∃ L dp v, DecAt w' p L dp v ∧ Dm L dp A B ∧ L.length ≤ 200 ∧ dp ≤ 2000 ∧ -2000 ≤ dp ∧ ∀ g, v.ownBlock = some g → w.heap.size ≤ g
theorem pow_le59 {k : Nat} (h : k ≤ 59) : 2 ^ k ≤ 576460752303423488 := by
  have : 2 ^ k ≤ 2 ^ 59 := Nat.pow_le_pow_right (by decide) h
  simpa using this
theorem mask_low (m k : Nat) (hk : k ≤ 59) (hm : m < 18446744073709551616) : bits BinOp.and IntKind.u64 (m : Int) (IntKind.u64.wrap (IntKind.u64.wrap ((2 : Int) ^ k) - 1)) = ((m % 2 ^ k : Nat) : Int) := by
  have h1 := pow_le59 hk
  have h2 : 0 < 2 ^ k := Nat.pow_pos (by decide)
  have e1 : ((2 : Int) ^ k) = ((2 ^ k : Nat) : Int) := by simp
  have e2 : IntKind.u64.wrap ((2 ^ k : Nat) : Int) = ((2 ^ k : Nat) : Int) := IntWalk.u64_in _ (by omega)
  have e3 : ((2 ^ k : Nat) : Int) - 1 = ((2 ^ k - 1 : Nat) : Int) := by omega
  have e4 : IntKind.u64.wrap ((2 ^ k - 1 : Nat) : Int) = ((2 ^ k - 1 : Nat) : Int) := IntWalk.u64_in _ (by omega)
  rw [e1, e2, e3, e4, bits_and_u64_nat _ _ hm (by omega), Nat.and_two_pow_sub_one_eq_mod]
theorem half_next (m k d : Nat) (hk : k ≤ 59) (hm : m < 18446744073709551616) (hd : d < 10) :
    IntKind.u64.wrap (IntKind.u64.wrap (bits BinOp.and IntKind.u64 (m : Int) (IntKind.u64.wrap (IntKind.u64.wrap ((2 : Int) ^ k) - 1)) * 10) + (d : Int)) = ((m % 2 ^ k * 10 + d : Nat) : Int) := by
  have h1 := pow_le59 hk
  have h3 := Nat.mod_lt m (show 0 < 2 ^ k from Nat.pow_pos (by decide))
  rw [mask_low m k hk hm]
  generalize m % 2 ^ k = r at *
  have e5 : IntKind.u64.wrap ((r : Int) * 10) = (r : Int) * 10 := IntWalk.u64_in _ (by omega)
  rw [e5, IntWalk.u64_in _ (by omega)]
  omega
theorem half_next0 (m k : Nat) (hk : k ≤ 59) (hm : m < 18446744073709551616) :
    IntKind.u64.wrap (bits BinOp.and IntKind.u64 (m : Int) (IntKind.u64.wrap (IntKind.u64.wrap ((2 : Int) ^ k) - 1)) * 10) = ((m % 2 ^ k * 10 : Nat) : Int) := by
  have h1 := pow_le59 hk
  have h3 := Nat.mod_lt m (show 0 < 2 ^ k from Nat.pow_pos (by decide))
  rw [mask_low m k hk hm]
  rw [IntWalk.u64_in _ (by omega)]
  omega
set_option maxRecDepth 100000 in
set_option maxHeartbeats 4000000 in
theorem half_any (w : World) (p : Nat) (L : List Nat) (dp : Int) (v : Value) (A B k : Nat) (h : DecAt w p L dp v) (hm : Dm L dp A B) (hL : L.length ≤ 20) (hdp : dp ≤ 1000) (hdp2 : -1000 ≤ dp) (hk : k ≤ 59) (hA : 0 < A) :
    Calls Tryz.prog 155 #[.pointer (some ⟨p, 0, none⟩), .int .i64 k] w (HalfPost p A (B * 2 ^ k) w) := by
  obtain ⟨hb, hd, hap⟩ := h
  obtain ⟨AA, c, rfl, hc, hx⟩ := hd
  obtain ⟨g, rfl, hglt, hcell⟩ := hx hm.ne
  have hgp : g ≠ p := hap hm.ne g rfl
  obtain ⟨n, hn⟩ : ∃ n, n = L.length := ⟨_, rfl⟩
  obtain ⟨z, hz⟩ : ∃ z, z = 2 ^ k := ⟨_, rfl⟩
  have hz59 : z ≤ 576460752303423488 := by rw [hz]; exact pow_le59 hk
  have hzpos : 0 < z := by rw [hz]; exact Nat.pow_pos (by decide)
  rw [← hn] at hc hL hb
  have c0 := hb.cell0
  have c1 := hb.cell1
  have f1 := hb.frozen 1
  have f0 := hb.frozen 0
  have hltp := hb.lt
  have HN := Lib.hid hn
  have HB := Lib.hid hb
  have HM := Lib.hid hm
  have HZ := Lib.hid hz
  have HC := Lib.hid (And.intro hcell (And.intro hgp hglt))
  clear hx hap hn hm hz hcell hb
  go_enter Tryz.func155, Tryz.ntmps155
  go_wp2_with fail
  go_loop [4, 5] (fun nv iv => ∃ m i : Nat, nv = .int .u64 m ∧ iv = .int .i64 i ∧ i ≤ 20 ∧ m < 10 * z ∧ Hid (m = pn L i ∧ (i = 0 ∨ pn L (i - 1) < z))) (fun _ iv => 21 - (intOf iv).toNat)
  case atStart => exact ⟨0, 0, rfl, rfl, by decide, by omega, Lib.hid ⟨(pn_zero L).symm, Or.inl rfl⟩⟩
  case round =>
    obtain ⟨m, i, rfl, rfl, hi, hm10, HF⟩ := hrel
    have hmp := HF.out.1
    have hz2 : ((2 : Int) ^ k) = (z : Int) := by rw [HZ.out]; simp
    by_cases hlt : m < z
    · have e1 : ((m : Int) / 2 ^ k == 0) = true := by
        rw [hz2, beq_iff_eq]
        have : m / z = 0 := Nat.div_eq_of_lt hlt
        omega
      have hm59 : m ≤ 576460752303423488 := by omega
      have hi18 : i ≤ 18 := by
        by_cases h0 : i = 0
        · omega
        · have h1 := pn_pos HM.out.headed HM.out.ne (i := i) (by omega)
          rw [← hmp] at h1
          refine Nat.le_of_not_lt fun h2 => ?_
          have h3 : 10 ^ 18 ≤ 10 ^ (i - 1) := Nat.pow_le_pow_right (by decide) (by omega)
          have h4 : (10 : Nat) ^ 18 = 1000000000000000000 := by decide
          omega
      have hsucc := pn_succ L i
      rw [← hmp] at hsucc
      have hlt' := hlt
      rw [hmp] at hlt'
      by_cases hin : i < n
      · obtain ⟨d, hd⟩ : ∃ d, L[i]? = some d := ⟨_, List.getElem?_eq_getElem (by have := HN.out; omega)⟩
        have hd10 := HM.out.ten d (List.mem_of_getElem? hd)
        have d0 := HC.out.1 i d hd
        rw [List.getD_eq_getElem?_getD, hd] at hsucc
        have HS := Lib.hid hsucc
        have HLT := Lib.hid hlt'
        clear hsucc hd hz2 hmp hlt'
        go_wp2_with fail
        refine ⟨⟨m * 10 + d, i + 1, by simp, by simp, by omega, by omega, Lib.hid ⟨HS.out.symm, Or.inr HLT.out⟩⟩, by simp [intOf]; omega⟩
      · have hm0 : ((m : Int) == 0) = false := by
          rw [beq_eq_false_iff_ne]
          have h1 := pn_pos HM.out.headed HM.out.ne (i := i) (by have := HN.out; have := List.length_pos_iff.2 HM.out.ne; omega)
          have h2 : 0 < 10 ^ (i - 1) := Nat.pow_pos (by decide)
          omega
        rw [List.getD_eq_getElem?_getD, List.getElem?_eq_none (by have := HN.out; omega)] at hsucc
        have HS := Lib.hid hsucc
        have HLT := Lib.hid hlt'
        clear hsucc hz2 hmp hlt'
        go_wp2_with fail
        refine ⟨⟨m * 10, i + 1, by simp, by simp, by omega, by omega, Lib.hid ⟨by have := HS.out; simpa using this.symm, Or.inr HLT.out⟩⟩, by simp [intOf]; omega⟩
    · have e1 : ((m : Int) / 2 ^ k == 0) = false := by
        rw [hz2, beq_eq_false_iff_ne]
        have : 1 ≤ m / z := (Nat.le_div_iff_mul_le hzpos).2 (by omega)
        omega
      have hi0 : i ≠ 0 := by
        rintro rfl
        rw [pn_zero] at hmp
        omega
      obtain ⟨i1, rfl⟩ : ∃ i1, i = i1 + 1 := ⟨i - 1, by omega⟩
      have hstart : Hv L k (i1 + 1) (i1 + 1) m [] := by
        rw [hmp]
        refine Hv.start HM.out.ten ?_ ?_
        · rcases HF.out.2 with h | h
          · omega
          · rw [← HZ.out]; exact h
        · rw [← HZ.out, ← hmp]; omega
      have HST := Lib.hid hstart
      clear hstart hz2 hmp hi0 hlt
      go_wp2_with fail
      go_loopw [4, 5, 6] (fun nv iv ov wr => ∃ (m i : Nat) (O : List Nat) (v : Value), v = ov ∧ nv = .int .u64 m ∧ iv = .int .i64 i ∧ i ≤ 90 ∧ m < 10 * z ∧ Hid (Hv L k (i1 + 1) i m O ∧ w.grownBy wr (some p) ∧ DBox wr p (.slice (some ⟨g, 0, none⟩) n c) (dp - i1) ∧ wr.ownsRow w.heap.size 5 1 v O.length (encN O))) (fun _ iv _ _ => 91 - (intOf iv).toNat)
      case atStart =>
        refine ⟨m, i1 + 1, [], _, rfl, rfl, by simp, by omega, hm10, Lib.hid ⟨HST.out, grown_cell _ _ _ _, ?_, World.ownsRow_nil _ _ _ _⟩⟩
        exact HB.out.set1 _
      case round =>
        obtain ⟨m, i, O, v, rfl, rfl, rfl, hi90, hm10, HG⟩ := hrel
        obtain ⟨wz, hwz⟩ : ∃ x, x = wr := ⟨_, rfl⟩
        subst hwz
        obtain ⟨hHv, hgr, hbx, hown⟩ := HG.out
        have hbd := hHv.bound
        have hat := hHv.at_
        have c0 := hbx.cell0
        have f0 := hbx.frozen 0
        have hltp := hbx.lt
        have hszr := hgr.size
        have hz2 : ((2 : Int) ^ k) = (z : Int) := by rw [HZ.out]; simp
        obtain ⟨A', c', rfl⟩ := (digAt_own hown).1.shape
        have hvlt := hown.lt
        by_cases hgo : i < n ∨ 0 < m
        · have hi83 := hbd (by rcases hgo with h | h; left; rw [← HN.out]; exact h; right; exact h)
          rw [← HN.out] at hi83
          obtain ⟨q, hq⟩ : ∃ q, q = m / z := ⟨_, rfl⟩
          obtain ⟨r, hr⟩ : ∃ r, r = m % z := ⟨_, rfl⟩
          have hq10 : q < 10 := by rw [hq]; exact Nat.div_lt_of_lt_mul (by rw [Nat.mul_comm]; exact hm10)
          have hr59 : r < 576460752303423488 := by have := Nat.mod_lt m hzpos; omega
          have hqz : (m : Int) / 2 ^ k = (q : Int) := by rw [hz2, hq]; simp
          have hO : O.length ≤ 90 := by omega
          obtain ⟨i5, hi, he⟩ := Option.map_eq_some_iff.1 info_u8
          have hz0 : i5.zero = some (.int .u8 0) := congrArg (·.1) he
          have hz1 : i5.size = 1 := congrArg (·.2.1) he
          have hzz2 : i5.bytes = 1 := congrArg (·.2.2) he
          have HQ := Lib.hid (And.intro hq hr)
          have HZ2 := Lib.hid hz2
          clear he hat hbd hq hr hz2 hHv hgr
          by_cases hin : i < n
          · obtain ⟨d, hd⟩ : ∃ d, L[i]? = some d := ⟨_, List.getElem?_eq_getElem (by have := HN.out; omega)⟩
            have hd10 := HM.out.ten d (List.mem_of_getElem? hd)
            have d0 : wz.cell? ⟨g, i, none⟩ = some (.int .u8 d) := (World.cell?_of_block (HG.out.2.1.block g HC.out.2.2 (fun e => HC.out.2.1 (Option.some.inj e)))).trans (HC.out.1 i d hd)
            have HD := Lib.hid hd
            clear hd
            go_wp2_with (at_builtin; refine wpList_append_lies _ rfl _ _ 72 rfl w.heap.size 5 i5 (.int .u8 0) 1 1 Tryz.underlying72 hi hz0 hz1 hzz2 rfl (by decide) (.slice A' O.length c') O.length (encN O) rfl (hown.alloc _) ⟨wz.heap.size, 0, none⟩ 1 1 [.int .u8 q] rfl rfl (fun j u hj => ?_) (by simp [Value.oneCell']) (by decide) (by unfold maxLen; omega) (by omega) (by simp; omega) (wz.heap.size + 1) (by simp) ?_)
            · obtain rfl : j = 0 := by rcases j with _ | j; rfl; simp at hj
              obtain rfl : Value.int .u8 q = u := by simpa using hj
              exact cell_of_row _ wz.heap.size 0 _ _ _ (heap_alloc_new wz _)
            intro g' cap w5 hown5 hg5 _ hlt5
            have hb5 := (hbx.below ((Below.refl _ wz).alloc (Nat.le_refl _) _)).keep hg5 (fun e => by have := (hvlt _ e.symm).1; have := HB.out.lt; omega)
            have c5 := hb5.cell0
            clear c0
            have d5 : w5.cell? ⟨g, i, none⟩ = some (.int .u8 d) := (World.cell?_of_block ((hg5.block g (by simp; have := HC.out.2.2; omega) (fun e => by have := (hvlt _ e.symm).1; have := HC.out.2.2; omega)).trans (Below.heap_alloc wz _ g (by have := HC.out.2.2; omega)))).trans d0
            clear d0
            have hgr5 := grown_more (grown_more HG.out.2.1 (grown_of_below ((Below.refl _ wz).alloc (Nat.le_refl _) _) none) (fun k hk => by cases hk)) hg5 (fun k hk => Or.inl (hvlt k hk).1)
            have hHv5 := HG.out.1.step HM.out.ten
            rw [← HZ.out, ← HQ.out.1, ← HQ.out.2] at hHv5
            have H5 := Lib.hid (And.intro hgr5 (And.intro hHv5 (And.intro hb5 hown5)))
            clear hgr5 hHv5 hb5 hown5 hg5
            go_wp2_with fail
            rw [half_next m k d hk (by omega) hd10, ← HZ.out, ← HQ.out.2]
            refine ⟨⟨r * 10 + d, i + 1, O ++ [q], _, rfl, rfl, by simp, by omega, ?_, Lib.hid ⟨?_, H5.out.1, H5.out.2.2.1, ?_⟩⟩, by simp [intOf]; omega⟩
            · have := Nat.mod_lt m hzpos
              have := HQ.out.2
              omega
            · have h := H5.out.2.1
              rw [List.getD_eq_getElem?_getD, HD.out] at h
              exact h
            · have h := H5.out.2.2.2
              rw [encN_append, List.length_append]
              exact h
          · have hm0 : 0 < m := by rcases hgo with h | h; exact absurd h hin; exact h
            have hin2 : ¬ ((i : Int) < (n : Int)) := by omega
            have hm0z : (0 : Int) < (m : Int) := by omega
            have hin3 : decide ((i : Int) < (n : Int)) = false := by simpa using hin
            go_wp2_with (at_builtin; refine wpList_append_lies _ rfl _ _ 72 rfl w.heap.size 5 i5 (.int .u8 0) 1 1 Tryz.underlying72 hi hz0 hz1 hzz2 rfl (by decide) (.slice A' O.length c') O.length (encN O) rfl (hown.alloc _) ⟨wz.heap.size, 0, none⟩ 1 1 [.int .u8 q] rfl rfl (fun j u hj => ?_) (by simp [Value.oneCell']) (by decide) (by unfold maxLen; omega) (by omega) (by simp; omega) (wz.heap.size + 1) (by simp) ?_)
            intro g' cap w5 hown5 hg5 _ hlt5
            have hb5 := (hbx.below ((Below.refl _ wz).alloc (Nat.le_refl _) _)).keep hg5 (fun e => by have := (hvlt _ e.symm).1; have := HB.out.lt; omega)
            have c5 := hb5.cell0
            clear c0
            have hgr5 := grown_more (grown_more HG.out.2.1 (grown_of_below ((Below.refl _ wz).alloc (Nat.le_refl _) _) none) (fun k hk => by cases hk)) hg5 (fun k hk => Or.inl (hvlt k hk).1)
            have hHv5 := HG.out.1.step HM.out.ten
            rw [← HZ.out, ← HQ.out.1, ← HQ.out.2] at hHv5
            have H5 := Lib.hid (And.intro hgr5 (And.intro hHv5 (And.intro hb5 hown5)))
            clear hgr5 hHv5 hb5 hown5 hg5
            go_wp2_with fail
            rw [half_next0 m k hk (by omega), ← HZ.out, ← HQ.out.2]
            refine ⟨⟨r * 10, i + 1, O ++ [q], _, rfl, rfl, by simp, by omega, ?_, Lib.hid ⟨?_, H5.out.1, H5.out.2.2.1, ?_⟩⟩, by simp [intOf]; omega⟩
            · have := Nat.mod_lt m hzpos
              have := HQ.out.2
              omega
            · have h := H5.out.2.1
              rw [List.getD_eq_getElem?_getD, List.getElem?_eq_none (by have := HN.out; omega)] at h
              exact h
            · have h := H5.out.2.2.2
              rw [encN_append, List.length_append]
              exact h
        · have hin : ¬ (i < n) := fun h => hgo (Or.inl h)
          have hm0 : m = 0 := by
            refine Classical.byContradiction fun h => hgo (Or.inr (Nat.pos_of_ne_zero h))
          subst hm0
          have hin2 : ¬ ((i : Int) < (n : Int)) := by omega
          have hdone := hHv.done (by have := HN.out; omega) rfl HM.out.dec
          obtain ⟨hdig, hob⟩ := digAt_own hown
          have hgr2 := hgr.trans (grown_cell wz p 0 (.slice A' O.length c'))
          have hDec : DecAt (wz.setCell ⟨p, 0, none⟩ (.slice A' O.length c')) p O (dp - i1) (.slice A' O.length c') := ⟨hbx.set0 _, hdig.grown (grown_cell _ _ _ _) (fun _ g hg e => by have := hob g hg; have := HB.out.lt; injection e; omega), fun _ g hg e => by have := hob g hg; have := HB.out.lt; omega⟩
          have hOl : O.length ≤ 90 := by omega
          have HT := Lib.hid (trim_any _ _ _ _ _ hDec (by omega))
          have HE := Lib.hid (And.intro hgr2 (And.intro hdone (And.intro hHv.ten (And.intro hHv.headed hob))))
          have HOL := Lib.hid (And.intro hOl hat)
          have hi1 : i1 ≤ 90 := by omega
          clear hdone hdig hgr2 hDec hHv hgr hbd hat hown hob hvlt hOl hz2
          go_wp2_with fail
          refine HT.out.mono ?_
          rintro e w6 ⟨rfl, hg6, j, v', hj, hLL, hla, hob', hdec⟩
          have H6 := Lib.hid (And.intro (HE.out.1.trans hg6) (And.intro hj (And.intro hLL (And.intro hla (And.intro hob' hdec)))))
          clear hg6 hj hLL hla hob' hdec HT
          go_wp2_with fail
          go_end0
          obtain ⟨hgr6, hj, hLL, hla, hob', hdec⟩ := H6.out
          obtain ⟨_, hdone, hten, hhead, hob⟩ := HE.out
          have hne : O.take j ≠ [] := by
            intro e
            rw [e, List.nil_append] at hLL
            have h2 : ∀ z : Nat, num (List.replicate z 0) = 0 := fun z => by
              induction z with
              | zero => rfl
              | succ z ih => rw [List.replicate_succ', num_snoc, ih]
            obtain ⟨p', q', h3, _⟩ := hdone
            rw [hLL, h2, Nat.zero_mul, Nat.zero_mul] at h3
            have := Nat.mul_pos hA (pow_pos10 q')
            omega
          rw [if_neg hne] at hdec
          refine ⟨rfl, hgr6, O.take j, _, v', hdec, ⟨fun d hd => hten d (List.mem_of_mem_take hd), fun d hd => ?_, hla, hne, ?_⟩, ?_, ?_, ?_, fun g' hg' => ?_⟩
          · refine hhead d ?_
            rwa [List.getElem?_take_of_lt (by
              have := List.length_pos_iff.2 hne
              rw [List.length_take] at this; omega)] at hd
          · rw [hLL] at hdone
            have h3 := hdone.trimN
            rw [show (((i1 + 1 : Nat) : Int) - 1) = (i1 : Int) by omega] at h3
            exact h3
          · rw [List.length_take]; have := HOL.out.1; omega
          · omega
          · omega
          · rw [hob'] at hg'
            exact hob g' hg'
end Go.Proofs.YtpigccnlembfdaaGreatDoor

/- The walks of a decimal's shift to the right and of cmp where the first is the greater. Conditions: as each theorem states. -/
namespace Go.Proofs.YtpigccnlembfdaaGreatDoor
open Go.RowKit

theorem shift_any (w : World) (p : Nat) (L : List Nat) (dp : Int) (v : Value) (A B k : Nat) (h : DecAt w p L dp v) (hm : Dm L dp A B) (hL : L.length ≤ 20) (hdp : dp ≤ 1000) (hdp2 : -1000 ≤ dp) (hk : k ≤ 59) (hk1 : 1 ≤ k) (hA : 0 < A) :
    Calls Tryz.prog 117 #[.pointer (some ⟨p, 0, none⟩), .int .i64 (-(k : Int))] w (HalfPost p A (B * 2 ^ k) w) := by
  have HH := Lib.hid (half_any w p L dp v A B k h hm hL hdp hdp2 hk hA)
  clear h hm
  have hw : IntKind.i64.wrap (-(-(k : Int))) = (k : Int) := by rw [IntWalk.i64_in _ (by omega)]; omega
  have HW := Lib.hid hw
  clear hw
  go_enter Tryz.func117, Tryz.ntmps117
  go_wp2_with fail
  refine wp_loop_rounds 1 ?_
  rw [rounds_succ]
  go_wp2_with fail
  refine wp_loop_rounds 1 ?_
  rw [rounds_succ]
  go_wp2_with fail
  first | rw [HW.out] | skip
  refine HH.out.mono ?_
  rintro e w2 ⟨rfl, hg, hx⟩
  have HX := Lib.hid hx
  clear hx
  go_wp2_with fail
  go_end0
  exact ⟨rfl, hg, HX.out⟩

/-- The first decimal is the greater: by its point's place, or at the first digit where they part. -/
def CmpGt (La : List Nat) (dpa : Int) (Lb : List Nat) (dpb : Int) : Prop := La ≠ [] ∧ (Lb = [] ∨ (Lb ≠ [] ∧ (dpb < dpa ∨ (dpa = dpb ∧ ∃ i, (∀ j, j < i → at0 La j = at0 Lb j) ∧ at0 Lb i < at0 La i))))
def PosPost (w : World) (e : Ending) (w' : World) : Prop := ∃ x : Int, 0 < x ∧ x ≤ 1000000 ∧ e = .returned (.int .i64 x) ∧ Below w.heap.size w w'
theorem below_drewN (w : World) (n : Nat) : Below w.heap.size w (w.drewN n) := ⟨rfl, rfl, rfl, Nat.le_refl _, fun _ _ => rfl⟩
theorem at0_lt {L : List Nat} (ht : Ten L) (i : Nat) : at0 L i < 10 := by
  unfold at0
  rw [List.getD_eq_getElem?_getD]
  cases h : L[i]? with
  | none => decide
  | some d => exact ht d (List.mem_of_getElem? h)
theorem at0_len {L : List Nat} {i : Nat} (h : 0 < at0 L i) : i < L.length := by
  refine Nat.lt_of_not_le fun hle => ?_
  unfold at0 at h
  rw [List.getD_eq_getElem?_getD, List.getElem?_eq_none hle] at h
  exact absurd h (by decide)
set_option maxRecDepth 100000 in
set_option maxHeartbeats 4000000 in
theorem cmp_any (w : World) (p q : Nat) (La Lb : List Nat) (dpa dpb : Int) (va vb : Value) (ha : DecAt w p La dpa va) (hb : DecAt w q Lb dpb vb) (hgt : CmpGt La dpa Lb dpb) (hta : Ten La) (htb : Ten Lb)
    (hla : La.length ≤ 1000) (hlb : Lb.length ≤ 1000) (h1 : dpa ≤ 2000) (h2 : -2000 ≤ dpa) (h3 : dpb ≤ 2000) (h4 : -2000 ≤ dpb) :
    Calls Tryz.prog 158 #[.pointer (some ⟨p, 0, none⟩), .pointer (some ⟨q, 0, none⟩)] w (PosPost w) := by
  obtain ⟨hne, hgt⟩ := hgt
  have a0 := ha.box.cell0
  have a1 := ha.box.cell1
  have b0 := hb.box.cell0
  have b1 := hb.box.cell1
  have HA := Lib.hid ha
  have HB := Lib.hid hb
  obtain ⟨A, ca, rfl⟩ := ha.dig.shape
  obtain ⟨B, cb, rfl⟩ := hb.dig.shape
  have hap : 0 < La.length := List.length_pos_iff.2 hne
  have ha0 : ((La.length : Int) == 0) = false := by rw [beq_eq_false_iff_ne]; omega
  clear ha hb
  rcases hgt with hbn | ⟨hbn, hdp | ⟨hdp, i, hag, hi⟩⟩
  · have hb0 : Lb.length = 0 := by rw [hbn]; rfl
    obtain ⟨na, hna⟩ : ∃ na, na = La.length := ⟨_, rfl⟩
    rw [← hna] at a0 hap ha0 hla
    rw [hb0] at b0
    have hwn : IntKind.i64.wrap (na : Int) = (na : Int) := IntWalk.i64_in _ (by omega)
    clear HA HB hna hbn hb0 hlb hne
    go_enter Tryz.func158, Tryz.ntmps158
    go_wp2_with fail
    go_quiet (fail)
    go_wp2_with fail
    go_ret
    exact ⟨na, by omega, by omega, rfl, below_drewN _ _⟩
  · have hb0 : ((Lb.length : Int) == 0) = false := by rw [beq_eq_false_iff_ne]; have := List.length_pos_iff.2 hbn; omega
    generalize La.length = na at *
    generalize Lb.length = nb at *
    have hne2 : (dpa != dpb) = true := by rw [bne_iff_ne]; omega
    have hwd : IntKind.i64.wrap (dpa - dpb) = dpa - dpb := IntWalk.i64_in _ (by omega)
    clear HA HB
    go_enter Tryz.func158, Tryz.ntmps158
    go_wp2_with fail
    go_quiet (fail)
    go_wp2_with fail
    have HW := Lib.hid (below_drewN w nq)
    have a1' : (w.drewN nq).cell? ⟨p, 1, none⟩ = some (.int .i64 dpa) := a1
    have b1' : (w.drewN nq).cell? ⟨q, 1, none⟩ = some (.int .i64 dpb) := b1
    clear a0 a1 b0 b1
    generalize w.drewN nq = w1 at *
    go_quiet (fail)
    go_wp2_with fail
    go_ret
    exact ⟨dpa - dpb, by omega, by omega, rfl, HW.out.trans ((below_drewN _ _).mono HW.out.size)⟩
  · have hb0 : ((Lb.length : Int) == 0) = false := by rw [beq_eq_false_iff_ne]; have := List.length_pos_iff.2 hbn; omega
    subst hdp
    have hiA := at0_len (Nat.lt_of_le_of_lt (Nat.zero_le _) hi)
    have HAG := Lib.hid (And.intro hag hi)
    obtain ⟨na, hna⟩ : ∃ na, na = La.length := ⟨_, rfl⟩
    obtain ⟨nb, hnb⟩ : ∃ nb, nb = Lb.length := ⟨_, rfl⟩
    rw [← hna] at a0 ha0 hap hla hiA
    rw [← hnb] at b0 hb0 hlb
    have hlaa : La.length ≤ 1000000 := by omega
    have hlbb : Lb.length ≤ 1000000 := by omega
    have HL := Lib.hid (And.intro hlaa hlbb)
    have HNA := Lib.hid hna
    have HNB := Lib.hid hnb
    clear hna hnb hag hi hlaa hlbb
    go_enter Tryz.func158, Tryz.ntmps158
    go_wp2_with fail
    go_quiet (fail)
    go_wp2_with fail
    have HW := Lib.hid (below_drewN w nq)
    have HA1 := Lib.hid (HA.out.below HW.out)
    have HB1 := Lib.hid (HB.out.below HW.out)
    clear a0 a1 b0 b1 HA HB
    generalize w.drewN nq = w1 at *
    have a0 := HA1.out.box.cell0
    have b0 := HB1.out.box.cell0
    rw [← HNA.out] at a0
    rw [← HNB.out] at b0
    go_loop [5] (fun iv => ∃ k : Nat, k ≤ i ∧ iv = .int .i64 k) (fun iv => i + 1 - (intOf iv).toNat)
    case atStart => exact ⟨0, Nat.zero_le _, rfl⟩
    case round =>
      obtain ⟨k, hk, rfl⟩ := hrel
      have hkn : k < na := by omega
      have HDA := Lib.hid (digit_any w1 p La dpa _ HA1.out k HL.out.1)
      have HDB := Lib.hid (digit_any w1 q Lb dpa _ HB1.out k HL.out.2)
      obtain ⟨x, hx⟩ : ∃ x, x = at0 La k := ⟨_, rfl⟩
      obtain ⟨y, hy⟩ : ∃ y, y = at0 Lb k := ⟨_, rfl⟩
      have hx10 : x < 10 := by rw [hx]; exact at0_lt hta k
      have hy10 : y < 10 := by rw [hy]; exact at0_lt htb k
      rw [← hx] at HDA
      rw [← hy] at HDB
      have hkz : (k : Int) < (na : Int) := by omega
      by_cases hki : k < i
      · have hxy : x = y := by rw [hx, hy]; exact HAG.out.1 k hki
        have hnn : ((x : Int) != (y : Int)) = false := by rw [bne_eq_false_iff_eq]; omega
        clear hx hy hxy
        go_wp2_with (first | (go_at_call 160; ((with_reducible refine HDA.out.mono ?_); rintro e w2 ⟨rfl, rfl⟩)) | (go_at_call 160; ((with_reducible refine HDB.out.mono ?_); rintro e w2 ⟨rfl, rfl⟩)))
        refine ⟨⟨k + 1, by omega, by simp⟩, by simp [intOf]; omega⟩
      · obtain rfl : i = k := by omega
        have hlt : y < x := by rw [hx, hy]; exact HAG.out.2
        have hnn : ((x : Int) != (y : Int)) = true := by rw [bne_iff_ne]; omega
        have hws : IntKind.i64.wrap ((x : Int) - (y : Int)) = (x : Int) - (y : Int) := IntWalk.i64_in _ (by omega)
        have HWS := Lib.hid hws
        clear hx hy hws
        go_wp2_with (first | (go_at_call 160; ((with_reducible refine HDA.out.mono ?_); rintro e w2 ⟨rfl, rfl⟩)) | (go_at_call 160; ((with_reducible refine HDB.out.mono ?_); rintro e w2 ⟨rfl, rfl⟩)))
        go_ret
        exact ⟨(x : Int) - y, by omega, by omega, rfl, HW.out⟩
end Go.Proofs.YtpigccnlembfdaaGreatDoor

/- Regions that draw their order: an operation that only reads may be taken first although a store that waits for it will change what it reads: what it reads is known till that store has come up. Conditions: as each theorem states. -/
namespace Go.Proofs.YtpigccnlembfdaaGreatDoor

section
variable {P : Program} {md : Region.Mode} {ops : Array Oper} {Q : Exit → Act → World → Prop} {Sf : Array Bool → World → Prop}

/-- Whatever order is picked from here on; behind each operation Sf holds of what has come up and the world. -/
def anyS (P : Program) (md : Region.Mode) (ops : Array Oper) (Q : Exit → Act → World → Prop) (Sf : Array Bool → World → Prop) : Nat → Array Bool → Act → World → Prop
  | 0, l, a, w => Region.ready md ops l = [] ∧ Q .normal a w
  | n + 1, l, a, w => (Region.ready md ops l = [] → Q .normal a w) ∧
    ∀ i ∈ Region.ready md ops l, wpOp P ops Q i (fun a' w' => Sf (l.setIfInBounds i true) w' ∧ anyS P md ops Q Sf n (l.setIfInBounds i true) a' w') a w

theorem wpAny_of_anyS : ∀ (n : Nat) (l : Array Bool) (a : Act) (w : World), anyS P md ops Q Sf n l a w → wpAny P md ops Q n l a w
  | 0, _, _, _, h => h
  | n + 1, _, _, _, h => ⟨h.1, fun i hi => wpOp_mono (fun a' w' h' => wpAny_of_anyS n _ a' w' h'.2) (h.2 i hi)⟩

theorem anyS_first {T : World → Prop} {OK : Array Bool → Prop} {i : Nat} {oi : Oper} {v : Value} (hi : ops[i]? = some oi) (hsel : ∀ (j : Nat) (o : Oper) cs b, ops[j]? = some o → o.op ≠ .select cs b)
    (hQ : ∀ c a w, Q (.panic c) (a.put oi.dst v) w → Q (.panic c) a w) (hT : ∀ l w, OK l → Sf l w → T w)
    (hOK : ∀ l j, OK l → l.getD i true = false → j ∈ Region.ready md ops l → j ≠ i → OK (l.setIfInBounds j true)) (hinv : ∀ l w, Sf (l.setIfInBounds i true) w ↔ Sf l w) :
    ∀ (n : Nat) (l : Array Bool) (a : Act) (w : World),
      (∀ j oj, ops[j]? = some oj → j ≠ i → l.getD j true = false → (∀ e ∈ oj.after, Region.binds md e = true → e.on ≠ i) → oi.apart ops oj = true) →
      i ∈ Region.ready md ops l → OK l → YieldsIf P ops T oi v a → Sf l w →
      anyS P md ops Q Sf n (l.setIfInBounds i true) (a.put oi.dst v) w → anyS P md ops Q Sf (n + 1) l a w := by
  intro n
  induction n with
  | zero =>
    intro l a w _ hr hok hy hS H
    refine ⟨fun h => (by rw [h] at hr; cases hr), fun j hj => ?_⟩
    by_cases hji : j = i
    · subst hji
      exact hy.wpOp hi (hT l w hok hS) ⟨(hinv l w).2 hS, H⟩
    · have hm := ready_mono hj hji
      rw [H.1] at hm
      cases hm
  | succ n ih =>
    intro l a w hfree hr hok hy hS H
    refine ⟨fun h => (by rw [h] at hr; cases hr), fun j hj => ?_⟩
    by_cases hji : j = i
    · subst hji
      exact hy.wpOp hi (hT l w hok hS) ⟨(hinv l w).2 hS, H⟩
    · have hstep := H.2 j (ready_mono hj hji)
      obtain ⟨hjun, oj, hoj, hall⟩ := mem_ready.1 hj
      have hiun := (mem_ready.1 hr).1
      have hnot : ∀ e ∈ oj.after, Region.binds md e = true → e.on ≠ i := fun e he hb heq => by
        have hon := hall e he hb
        rw [heq] at hon
        rcases Nat.lt_or_ge i l.size with hlt | hge
        · simp [hlt] at hiun hon
          rw [hiun] at hon
          cases hon
        · simp [Array.getElem?_eq_none hge] at hiun
      have hcomm := wpOp_putIf hoj (hfree j oj hoj hji hjun hnot) (fun cs b => hsel i oi cs b hi) (fun cs b => hsel j oj cs b hoj) hQ hy hstep
      refine wpOp_mono (fun a' w' h3 => ?_) hcomm
      have hS' : Sf (l.setIfInBounds j true) w' := by
        have := h3.2.1
        rw [Array.setIfInBounds_comm _ _ (Ne.symm hji)] at this
        exact (hinv _ _).1 this
      refine ⟨hS', ih (l.setIfInBounds j true) a' w' (fun k ok hk hki hun hno => ?_) (ready_mono hr (Ne.symm hji)) (hOK l j hok hiun hj hji) h3.1 hS' ?_⟩
      · refine hfree k ok hk hki ?_ hno
        by_cases hjk : j = k
        · subst hjk; exact hjun
        · rw [getD_set_ne true hjk] at hun; exact hun
      · rw [Array.setIfInBounds_comm _ _ hji]
        exact h3.2.2

/-- R holds throughout, S till operation d has come up. -/
def Till (d : Nat) (R S : World → Prop) (l : Array Bool) (w : World) : Prop := R w ∧ (l.getD d true = false → S w)

variable {R S : World → Prop} {d : Nat}

theorem till_inv {i : Nat} (hid : i ≠ d) (l : Array Bool) (w : World) : Till d R S (l.setIfInBounds i true) w ↔ Till d R S l w := by
  unfold Till
  rw [getD_set_ne true hid]

/-- Taken first: what it reads is known throughout. -/
theorem till_take_R {i : Nat} {oi : Oper} (t : Tmp) (v : Value) {n : Nat} {l : Array Bool} {a : Act} {w : World} (hi : ops[i]? = some oi) (hdt : oi.dst = some t) (hs : Region.noSelect ops = true) (hf : Region.free md ops l i = true) (hr : (Region.ready md ops l).contains i = true)
    (hid : i ≠ d) (hQ : ∀ c a w, Q (.panic c) (a.put oi.dst v) w → Q (.panic c) a w) (hy : YieldsIf P ops R oi v a) (hS : Till d R S l w)
    (h : anyS P md ops Q (Till d R S) n (l.setIfInBounds i true) (a.put (some t) v) w) : anyS P md ops Q (Till d R S) (n + 1) l a w :=
  anyS_first (v := v) (T := R) (OK := fun _ => True) hi (Region.noSelect_spec hs) hQ (fun _ _ _ h => h.1) (fun _ _ _ _ _ _ => trivial) (till_inv hid) n l a w (Region.free_spec hi hf) (by simpa using hr) trivial hy hS (hdt ▸ h)

/-- Does operation d wait for operation i? -/
def waits (md : Region.Mode) (ops : Array Oper) (d i : Nat) : Bool := match ops[d]? with
  | some o => o.after.any fun e => Region.binds md e && e.on == i
  | none => false

/-- Taken first: what it reads is known till d, which waits for it, has come up. -/
theorem till_take_S {i : Nat} {oi : Oper} (t : Tmp) (v : Value) {n : Nat} {l : Array Bool} {a : Act} {w : World} (hi : ops[i]? = some oi) (hdt : oi.dst = some t) (hs : Region.noSelect ops = true) (hf : Region.free md ops l i = true) (hr : (Region.ready md ops l).contains i = true)
    (hid : i ≠ d) (hw : waits md ops d i = true) (hl : l.getD d true = false) (hQ : ∀ c a w, Q (.panic c) (a.put oi.dst v) w → Q (.panic c) a w) (hy : YieldsIf P ops S oi v a) (hS : Till d R S l w)
    (h : anyS P md ops Q (Till d R S) n (l.setIfInBounds i true) (a.put (some t) v) w) : anyS P md ops Q (Till d R S) (n + 1) l a w := by
  refine anyS_first (T := S) (OK := fun l => l.getD d true = false) hi (Region.noSelect_spec hs) hQ (fun _ _ hok h => h.2 hok) (fun l j hok hun hj hji => ?_) (till_inv hid) n l a w (Region.free_spec hi hf) (by simpa using hr) hl hy hS (hdt ▸ h)
  have hjd : j ≠ d := by
    rintro rfl
    obtain ⟨_, oj, hoj, hall⟩ := mem_ready.1 hj
    unfold waits at hw
    rw [hoj] at hw
    obtain ⟨k, hk, he⟩ := Array.any_eq_true.1 hw
    simp only [Bool.and_eq_true, beq_iff_eq] at he
    have hon := hall _ (Array.getElem_mem hk) he.1
    rw [he.2] at hon
    rcases Nat.lt_or_ge i l.size with hlt | hge
    · simp [hlt] at hun hon
      rw [hun] at hon
      cases hon
    · simp [Array.getElem?_eq_none hge] at hun
  rw [getD_set_ne true hjd]
  exact hok

/-- Each of these comes up next. -/
def AllS (P : Program) (md : Region.Mode) (ops : Array Oper) (Q : Exit → Act → World → Prop) (Sf : Array Bool → World → Prop) (n : Nat) (l : Array Bool) (a : Act) (w : World) (rs : List Nat) : Prop :=
  ∀ i ∈ rs, wpOp P ops Q i (fun a' w' => Sf (l.setIfInBounds i true) w' ∧ anyS P md ops Q Sf n (l.setIfInBounds i true) a' w') a w
theorem AllS.nil {n : Nat} {l : Array Bool} {a : Act} {w : World} : AllS P md ops Q Sf n l a w [] := fun _ h => by cases h
theorem AllS.cons {n : Nat} {l : Array Bool} {a : Act} {w : World} {i : Nat} {o : Oper} {rs : List Nat} (ho : ops[i]? = some o)
    (h : ∀ K' : Act → World → Prop, Go.RowKit.Hid (∀ a w, Sf (l.setIfInBounds i true) w → anyS P md ops Q Sf n (l.setIfInBounds i true) a w → K' a w) → if Region.wanted o (yielded ops a.tmps) = true then Oper.wp P o a w K' Q else K' (a.put o.dst undef) w)
    (hs : AllS P md ops Q Sf n l a w rs) : AllS P md ops Q Sf n l a w (i :: rs) := fun j hj => by
  rcases List.mem_cons.1 hj with rfl | hj
  · exact wpOp_step ho (fun K' hK => h K' (fun a w hS hW => hK a w ⟨hS, hW⟩))
  · exact hs j hj
theorem anyS_ready {rs : List Nat} {n : Nat} {l : Array Bool} {a : Act} {w : World} (hr : Region.ready md ops l = rs) (hne : rs ≠ []) (h : AllS P md ops Q Sf n l a w rs) : anyS P md ops Q Sf (n + 1) l a w :=
  ⟨fun h0 => absurd (hr ▸ h0) hne, hr ▸ h⟩
theorem anyS_done {l : Array Bool} {a : Act} {w : World} (hr : Region.ready md ops l = []) (h : Q .normal a w) : ∀ n, anyS P md ops Q Sf n l a w
  | 0 => ⟨hr, h⟩
  | _ + 1 => ⟨fun _ => h, by rw [hr]; simp⟩
/-- The beginning. -/
theorem wp_region_S {id : Nat} {a : Act} {w : World} (hm : P.follows .mixedOrders = true) (h : anyS P .any ops Q Sf ops.size (Array.replicate ops.size false) a w.drew) : (Code.region id ops true).wp P Q a w :=
  wp_region_any hm (wpAny_of_anyS _ _ _ _ h)
end
end Go.Proofs.YtpigccnlembfdaaGreatDoor

/- The walk of a decimal's down: fewer digits. Conditions: as the theorem states. -/
namespace Go.Proofs.YtpigccnlembfdaaGreatDoor
open Go.RowKit

theorem ownEmpty (w : World) {base : Nat} (hb : base ≤ w.heap.size) : (w.alloc (.cells #[] 5)).ownsRow base 5 1 (.slice (some ⟨w.heap.size, 0, none⟩) 0 0) 0 [] :=
  ⟨rfl, Or.inr ⟨w.heap.size, 0, #[], rfl, hb, heap_alloc_new w _, Nat.le_refl _, by decide, rfl, rfl⟩⟩
theorem ownEmpty2 (w : World) (o : Obj) {base : Nat} (hb : base ≤ w.heap.size) : ((w.alloc o).alloc (.cells #[] 5)).ownsRow base 5 1 (.slice (some ⟨w.heap.size + 1, 0, none⟩) 0 0) 0 [] := by
  have := ownEmpty (w.alloc o) (base := base) (by simp; omega)
  simpa using this
theorem encN_take {L : List Nat} {n : Nat} (h : n ≤ L.length) : (encN (L.take n)).length = n * 1 := by simp [encN]; omega
theorem srcCell {w : World} {g n j : Nat} {L : List Nat} {u : Value} (hc : ∀ (i a : Nat), L[i]? = some a → w.cell? ⟨g, i, none⟩ = some (.int .u8 a)) (hj : (encN (L.take n))[j]? = some u) : w.cell? ((⟨g, 0, none⟩ : Addr).add j) = some u := by
  rw [show (⟨g, 0, none⟩ : Addr).add j = ⟨g, j, none⟩ by unfold Addr.add; split <;> simp_all]
  unfold encN at hj
  rw [List.getElem?_map] at hj
  cases h : (L.take n)[j]? with
  | none => rw [h] at hj; cases hj
  | some a =>
    rw [h] at hj
    cases hj
    refine hc j a ?_
    rw [List.getElem?_take] at h
    split at h
    · exact h
    · cases h
theorem srcCell1 {w : World} {g n j : Nat} {L : List Nat} {u : Value} {o : Obj} (hc : ∀ (i a : Nat), L[i]? = some a → w.cell? ⟨g, i, none⟩ = some (.int .u8 a)) (hg : g < w.heap.size) (hj : (encN (L.take n))[j]? = some u) : (w.alloc o).cell? ((⟨g, 0, none⟩ : Addr).add j) = some u :=
  srcCell (fun i a ha => (World.cell?_alloc_lt _ _ _ hg).trans (hc i a ha)) hj
theorem srcCell2 {w : World} {g n j : Nat} {L : List Nat} {u : Value} {o o' : Obj} (hc : ∀ (i a : Nat), L[i]? = some a → w.cell? ⟨g, i, none⟩ = some (.int .u8 a)) (hg : g < w.heap.size) (hj : (encN (L.take n))[j]? = some u) : ((w.alloc o).alloc o').cell? ((⟨g, 0, none⟩ : Addr).add j) = some u :=
  srcCell1 (fun i a ha => (World.cell?_alloc_lt _ _ _ hg).trans (hc i a ha)) (by simp; omega) hj
theorem cell_two_ne {w : World} {p b i : Nat} (u v : Value) (hp : p < w.heap.size) (hne : b ≠ p) : ((w.setCell ⟨b, 0, none⟩ u).setCell ⟨b, 1, none⟩ v).cell? ⟨p, i, none⟩ = w.cell? ⟨p, i, none⟩ :=
  (World.cell?_of_block ((grown_cell (w.setCell ⟨b, 0, none⟩ u) b 1 v).block p (Nat.lt_of_lt_of_le hp (grown_cell w b 0 u).size) (fun e => hne (Option.some.inj e).symm))).trans (World.cell?_of_block ((grown_cell w b 0 u).block p hp (fun e => hne (Option.some.inj e).symm)))
/-- What is left behind a drawn order: the new decimal in its own row, in a box made before or after it. -/
theorem leaf1 {w w1 w6 : World} {L : List Nat} {g2 n cap : Nat} {dp : Int} {o : Obj} (hB : Below w.heap.size w w1) (hsz : w1.heap.size = w.heap.size) (hn : n ≤ L.length)
    (hown : w6.ownsRow w1.heap.size 5 1 (.slice (some ⟨g2, 0, none⟩) n cap) n (encN (L.take n))) (hg : (w1.alloc o).grownBy w6 (some w1.heap.size)) :
    Below w.heap.size w (w6.alloc (.cells #[.slice (some ⟨g2, 0, none⟩) n cap, .int .i64 dp] 183)) ∧ DecAt (w6.alloc (.cells #[.slice (some ⟨g2, 0, none⟩) n cap, .int .i64 dp] 183)) w6.heap.size (L.take n) dp (.slice (some ⟨g2, 0, none⟩) n cap) := by
  have h6 := hB.trans ((((Below.refl w1.heap.size w1).alloc (Nat.le_refl _) o).grown hg (by simp) (fun k hk => by injection hk; omega)).mono (by omega))
  have hlt := hown.lt g2 rfl
  refine ⟨h6.alloc h6.size _, heap_alloc_new _ _, ?_, fun _ g hg => ?_⟩
  · have hl : (L.take n).length = n := by rw [List.length_take]; omega
    have h := hown.alloc (.cells #[.slice (some ⟨g2, 0, none⟩) n cap, .int .i64 dp] 183)
    have h2 : (w6.alloc (.cells #[.slice (some ⟨g2, 0, none⟩) n cap, .int .i64 dp] 183)).ownsRow w1.heap.size 5 1 (.slice (some ⟨g2, 0, none⟩) n cap) (L.take n).length (encN (L.take n)) := by rw [hl]; exact h
    exact (digAt_own h2).1
  · simp only [Value.ownBlock, Option.some.injEq] at hg; omega
theorem leaf2 {w w1 w6 : World} {L : List Nat} {g2 q n cap e : Nat} {dp : Int} {o o' : Obj} (hB : Below w.heap.size w w1) (hsz : w1.heap.size = w.heap.size) (hn : n ≤ L.length)
    (hown : w6.ownsRow w1.heap.size 5 1 (.slice (some ⟨g2, 0, none⟩) n cap) n (encN (L.take n))) (hg : ((w1.alloc o).alloc o').grownBy w6 (some e)) (he : w1.heap.size ≤ e) (hq : w1.heap.size ≤ q) (hqe : q ≠ e) (hqg : q ≠ g2)
    (hb : DBox ((w1.alloc o).alloc o') q (.slice none 0 0) 0) :
    Below w.heap.size w ((w6.setCell ⟨q, 0, none⟩ (.slice (some ⟨g2, 0, none⟩) n cap)).setCell ⟨q, 1, none⟩ (.int .i64 dp)) ∧ DecAt ((w6.setCell ⟨q, 0, none⟩ (.slice (some ⟨g2, 0, none⟩) n cap)).setCell ⟨q, 1, none⟩ (.int .i64 dp)) q (L.take n) dp (.slice (some ⟨g2, 0, none⟩) n cap) := by
  have h0 : Below w1.heap.size w1 ((w1.alloc o).alloc o') := ((Below.refl w1.heap.size w1).alloc (Nat.le_refl _) o).alloc (by simp) o'
  have h6 := hB.trans ((h0.grown hg (by simp; omega) (fun k hk => by injection hk; omega)).mono (by omega))
  have hlt := hown.lt g2 rfl
  have hb6 := hb.keep hg (fun e => by injection e; omega)
  have hgr := (grown_cell w6 q 0 (.slice (some ⟨g2, 0, none⟩) n cap)).trans (grown_cell _ q 1 (.int .i64 dp))
  refine ⟨h6.grown hgr h6.size (fun k hk => by injection hk; omega), (hb6.set0 _).set1 _, ?_, fun _ g hg => ?_⟩
  · have hl : (L.take n).length = n := by rw [List.length_take]; omega
    have h := hown.kept hgr (Or.inr (by simp [Value.ownBlock]; omega))
    have h2 : ((w6.setCell ⟨q, 0, none⟩ (.slice (some ⟨g2, 0, none⟩) n cap)).setCell ⟨q, 1, none⟩ (.int .i64 dp)).ownsRow w1.heap.size 5 1 (.slice (some ⟨g2, 0, none⟩) n cap) (L.take n).length (encN (L.take n)) := by rw [hl]; exact h
    exact (digAt_own h2).1
  · simp only [Value.ownBlock, Option.some.injEq] at hg; omega
/-- What down leaves. -/
def DownPost (L : List Nat) (n : Nat) (dp : Int) (w : World) (e : Ending) (w' : World) : Prop := ∃ p D z v, e = .returned (.pointer (some ⟨p, 0, none⟩)) ∧ Below w.heap.size w w' ∧ L.take n = D ++ List.replicate z 0 ∧ Lasted D ∧ DecAt w' p D (if D = [] then 0 else dp) v
theorem DBox.of_new2 (w : World) (o : Obj) : DBox ((w.alloc o).alloc (.cells #[.slice none 0 0, .int .i64 0] 183)) (w.heap.size + 1) (.slice none 0 0) 0 := by
  have h : DBox ((w.alloc o).alloc (.cells #[.slice none 0 0, .int .i64 0] 183)) (w.alloc o).heap.size (.slice none 0 0) 0 := heap_alloc_new _ _
  simpa using h
theorem DBox.of_new1 (w : World) (o : Obj) : DBox ((w.alloc (.cells #[.slice none 0 0, .int .i64 0] 183)).alloc o) w.heap.size (.slice none 0 0) 0 := by
  have h : DBox (w.alloc (.cells #[.slice none 0 0, .int .i64 0] 183)) w.heap.size (.slice none 0 0) 0 := heap_alloc_new _ _
  exact h.below ((Below.refl _ _).alloc (Nat.le_refl _) _)
theorem leaf0a {w w1 : World} {L : List Nat} {dp : Int} (hB : Below w.heap.size w w1) (hsz : w1.heap.size = w.heap.size) :
    Below w.heap.size w ((w1.alloc (.cells #[] 5)).alloc (.cells #[.slice (some ⟨w1.heap.size, 0, none⟩) 0 0, .int .i64 dp] 183)) ∧ DecAt ((w1.alloc (.cells #[] 5)).alloc (.cells #[.slice (some ⟨w1.heap.size, 0, none⟩) 0 0, .int .i64 dp] 183)) (w1.heap.size + 1) (L.take 0) dp (.slice (some ⟨w1.heap.size, 0, none⟩) 0 0) := by
  refine ⟨(hB.alloc hB.size _).alloc (by have := hB.size; simp; omega) _, ?_, ⟨_, 0, rfl, Nat.le_refl _, fun h => absurd rfl h⟩, fun h => absurd rfl h⟩
  have h : DBox ((w1.alloc (.cells #[] 5)).alloc (.cells #[.slice (some ⟨w1.heap.size, 0, none⟩) 0 0, .int .i64 dp] 183)) (w1.alloc (.cells #[] 5)).heap.size (.slice (some ⟨w1.heap.size, 0, none⟩) 0 0) dp := heap_alloc_new _ _
  simpa using h
theorem leaf0b {w w1 : World} {L : List Nat} {dp : Int} (hB : Below w.heap.size w w1) (hsz : w1.heap.size = w.heap.size) :
    Below w.heap.size w ((w1.alloc (.cells #[.slice (some ⟨w1.heap.size + 1, 0, none⟩) 0 0, .int .i64 dp] 183)).alloc (.cells #[] 5)) ∧ DecAt ((w1.alloc (.cells #[.slice (some ⟨w1.heap.size + 1, 0, none⟩) 0 0, .int .i64 dp] 183)).alloc (.cells #[] 5)) w1.heap.size (L.take 0) dp (.slice (some ⟨w1.heap.size + 1, 0, none⟩) 0 0) := by
  refine ⟨(hB.alloc hB.size _).alloc (by have := hB.size; simp; omega) _, ?_, ⟨_, 0, rfl, Nat.le_refl _, fun h => absurd rfl h⟩, fun h => absurd rfl h⟩
  have h : DBox (w1.alloc (.cells #[.slice (some ⟨w1.heap.size + 1, 0, none⟩) 0 0, .int .i64 dp] 183)) w1.heap.size (.slice (some ⟨w1.heap.size + 1, 0, none⟩) 0 0) dp := heap_alloc_new _ _
  exact h.below ((Below.refl _ _).alloc (Nat.le_refl _) _)
theorem down_close {w w' w'' : World} {q n : Nat} {L : List Nat} {dp : Int} {v : Value} {e : Ending} (hB : Below w.heap.size w w') (hq : w.heap.size ≤ q) (hT : TrimPost q (L.take n) dp v w' e w'') : DownPost L n dp w e w'' := by
  obtain ⟨rfl, hg, k, v', hk, hL, hla, _, hd⟩ := hT
  exact ⟨q, _, _, v', rfl, hB.grown hg hB.size (fun b hb => by injection hb; omega), hL, hla, hd⟩
set_option maxRecDepth 100000 in
set_option maxHeartbeats 4000000 in
theorem down_any (w : World) (p : Nat) (L : List Nat) (dp : Int) (v : Value) (h : DecAt w p L dp v) (n : Nat) (hn : n < L.length) (hL : L.length ≤ 1000) :
    Calls Tryz.prog 156 #[.pointer (some ⟨p, 0, none⟩), .int .i64 n] w (DownPost L n dp w) := by
  have c0 := h.box.cell0
  have c1 := h.box.cell1
  have H := Lib.hid h
  obtain ⟨AA, c, rfl, hc, hx⟩ := h.dig
  obtain ⟨g, rfl, hg, hcell⟩ := hx (by rintro rfl; simp at hn)
  have hltp := h.box.lt
  obtain ⟨m, hm⟩ : ∃ m, m = L.length := ⟨_, rfl⟩
  have hnL : n ≤ L.length := by omega
  rw [← hm] at c0 hn hL hc
  have hnm : ¬ ((m : Int) ≤ (n : Int)) := by omega
  have hnc : (n : Int) ≤ (c : Int) := by omega
  have hnc2 : n ≤ c := by omega
  have hn0 : (0 : Int) ≤ (n : Int) := by omega
  have HM := Lib.hid hm
  have HC := Lib.hid hcell
  obtain ⟨i5, hi, he⟩ := Option.map_eq_some_iff.1 info_u8
  have hz0 : i5.zero = some (.int .u8 0) := congrArg (·.1) he
  have hz1 : i5.size = 1 := congrArg (·.2.1) he
  have hz2 : i5.bytes = 1 := congrArg (·.2.2) he
  clear h hx hm hcell he
  go_enter Tryz.func156, Tryz.ntmps156
  go_wp2_with fail
  by_cases hnz : n = 0
  · subst hnz
    refine wp_region_S (Sf := Till 15 (fun W => W.cell? ⟨p, 0, none⟩ = some (.slice (some ⟨g, 0, none⟩) m c) ∧ W.cell? ⟨p, 1, none⟩ = some (.int .i64 dp)) (fun _ => True)) (by kernel_rfl) ?_
    have HBD := Lib.hid (show Below w.heap.size w w.drew from (Below.refl _ _).drew)
    have c0d : w.drew.cell? ⟨p, 0, none⟩ = some (.slice (some ⟨g, 0, none⟩) m c) := c0
    have c1d : w.drew.cell? ⟨p, 1, none⟩ = some (.int .i64 dp) := c1
    have hszd : w.drew.heap.size = w.heap.size := rfl
    have HCD : Hid (∀ (i a : Nat), L[i]? = some a → w.drew.cell? ⟨g, i, none⟩ = some (.int .u8 a)) := HC
    clear c0 c1 HC
    generalize w.drew = w1 at *
    rw [← hszd] at hg hltp
    have HSZ := Lib.hid hszd
    clear hszd
    have p0 : ∀ o, (w1.alloc o).cell? ⟨p, 0, none⟩ = some (.slice (some ⟨g, 0, none⟩) m c) := fun o => (World.cell?_alloc_lt _ _ _ hltp).trans c0d
    have p1 : ∀ o, (w1.alloc o).cell? ⟨p, 1, none⟩ = some (.int .i64 dp) := fun o => (World.cell?_alloc_lt _ _ _ hltp).trans c1d
    have pp0 : ∀ o o', ((w1.alloc o).alloc o').cell? ⟨p, 0, none⟩ = some (.slice (some ⟨g, 0, none⟩) m c) := fun o o' => (World.cell?_alloc_lt _ _ _ (by simp; omega)).trans (p0 o)
    have pp1 : ∀ o o', ((w1.alloc o).alloc o').cell? ⟨p, 1, none⟩ = some (.int .i64 dp) := fun o o' => (World.cell?_alloc_lt _ _ _ (by simp; omega)).trans (p1 o)
    have P := Lib.hid (And.intro p0 (And.intro p1 (And.intro pp0 pp1)))
    clear p0 p1 pp0 pp1
    refine till_take_R (i := 1) 15 (.pointer (some ⟨p, 0, none⟩)) rfl rfl (by kernel_rfl) (by kernel_rfl) (by kernel_rfl) (by decide) (fun _ _ _ h => h) (Or.inl ⟨by rfl, ?_⟩) ⟨⟨c0d, c1d⟩, fun _ => trivial⟩ ?_
    · intro W hW; obtain ⟨h0, h1⟩ := hW; go_simp
    simp only [Act.put, List.setIfInBounds_toArray, List.set_cons_zero, List.set_cons_succ]
    refine till_take_R (i := 2) 16 (.pointer (some ⟨p, 0, none⟩)) rfl rfl (by kernel_rfl) (by kernel_rfl) (by kernel_rfl) (by decide) (fun _ _ _ h => h) (Or.inl ⟨by rfl, ?_⟩) ⟨⟨c0d, c1d⟩, fun _ => trivial⟩ ?_
    · intro W hW; obtain ⟨h0, h1⟩ := hW; go_simp
    simp only [Act.put, List.setIfInBounds_toArray, List.set_cons_zero, List.set_cons_succ]
    refine till_take_R (i := 3) 17 (.pointer (some ⟨p, 0, none⟩)) rfl rfl (by kernel_rfl) (by kernel_rfl) (by kernel_rfl) (by decide) (fun _ _ _ h => h) (Or.inl ⟨by rfl, ?_⟩) ⟨⟨c0d, c1d⟩, fun _ => trivial⟩ ?_
    · intro W hW; obtain ⟨h0, h1⟩ := hW; go_simp
    simp only [Act.put, List.setIfInBounds_toArray, List.set_cons_zero, List.set_cons_succ]
    refine till_take_R (i := 4) 18 (.slice (some ⟨g, 0, none⟩) m c) rfl rfl (by kernel_rfl) (by kernel_rfl) (by kernel_rfl) (by decide) (fun _ _ _ h => h) (Or.inl ⟨by rfl, ?_⟩) ⟨⟨c0d, c1d⟩, fun _ => trivial⟩ ?_
    · intro W hW; obtain ⟨h0, h1⟩ := hW; go_simp
    simp only [Act.put, List.setIfInBounds_toArray, List.set_cons_zero, List.set_cons_succ]
    refine till_take_R (i := 5) 19 (.int .i64 0) rfl rfl (by kernel_rfl) (by kernel_rfl) (by kernel_rfl) (by decide) (fun _ _ _ h => h) (Or.inl ⟨by rfl, ?_⟩) ⟨⟨c0d, c1d⟩, fun _ => trivial⟩ ?_
    · intro W hW; obtain ⟨h0, h1⟩ := hW; go_simp
    simp only [Act.put, List.setIfInBounds_toArray, List.set_cons_zero, List.set_cons_succ]
    refine till_take_R (i := 6) 20 (.int .i64 0) rfl rfl (by kernel_rfl) (by kernel_rfl) (by kernel_rfl) (by decide) (fun _ _ _ h => h) (Or.inl ⟨by rfl, ?_⟩) ⟨⟨c0d, c1d⟩, fun _ => trivial⟩ ?_
    · intro W hW; obtain ⟨h0, h1⟩ := hW; go_simp; try (intros; omega)
    simp only [Act.put, List.setIfInBounds_toArray, List.set_cons_zero, List.set_cons_succ]
    refine till_take_R (i := 7) 21 (.slice (some ⟨g, 0, none⟩) 0 c) rfl rfl (by kernel_rfl) (by kernel_rfl) (by kernel_rfl) (by decide) (fun _ _ _ h => h) (Or.inl ⟨by rfl, ?_⟩) ⟨⟨c0d, c1d⟩, fun _ => trivial⟩ ?_
    · intro W hW; obtain ⟨h0, h1⟩ := hW; go_simp
    simp only [Act.put, List.setIfInBounds_toArray, List.set_cons_zero, List.set_cons_succ]
    refine till_take_R (i := 9) 23 (.pointer (some ⟨p, 0, none⟩)) rfl rfl (by kernel_rfl) (by kernel_rfl) (by kernel_rfl) (by decide) (fun _ _ _ h => h) (Or.inl ⟨by rfl, ?_⟩) ⟨⟨c0d, c1d⟩, fun _ => trivial⟩ ?_
    · intro W hW; obtain ⟨h0, h1⟩ := hW; go_simp
    simp only [Act.put, List.setIfInBounds_toArray, List.set_cons_zero, List.set_cons_succ]
    refine till_take_R (i := 10) 24 (.pointer (some ⟨p, 0, none⟩)) rfl rfl (by kernel_rfl) (by kernel_rfl) (by kernel_rfl) (by decide) (fun _ _ _ h => h) (Or.inl ⟨by rfl, ?_⟩) ⟨⟨c0d, c1d⟩, fun _ => trivial⟩ ?_
    · intro W hW; obtain ⟨h0, h1⟩ := hW; go_simp
    simp only [Act.put, List.setIfInBounds_toArray, List.set_cons_zero, List.set_cons_succ]
    refine till_take_R (i := 11) 25 (.pointer (some ⟨p, 1, none⟩)) rfl rfl (by kernel_rfl) (by kernel_rfl) (by kernel_rfl) (by decide) (fun _ _ _ h => h) (Or.inl ⟨by rfl, ?_⟩) ⟨⟨c0d, c1d⟩, fun _ => trivial⟩ ?_
    · intro W hW; obtain ⟨h0, h1⟩ := hW; go_simp
    simp only [Act.put, List.setIfInBounds_toArray, List.set_cons_zero, List.set_cons_succ]
    refine till_take_R (i := 12) 26 (.int .i64 dp) rfl rfl (by kernel_rfl) (by kernel_rfl) (by kernel_rfl) (by decide) (fun _ _ _ h => h) (Or.inl ⟨by rfl, ?_⟩) ⟨⟨c0d, c1d⟩, fun _ => trivial⟩ ?_
    · intro W hW; obtain ⟨h0, h1⟩ := hW; go_simp
    simp only [Act.put, List.setIfInBounds_toArray, List.set_cons_zero, List.set_cons_succ]
    refine anyS_ready (rs := [0, 14]) (by kernel_rfl) (by simp) ?_
    refine AllS.cons rfl (fun K hK => ?_) (AllS.cons rfl (fun K hK => ?_) AllS.nil)
    · go_simp
      refine hK.out _ _ ⟨⟨P.out.1 _, P.out.2.1 _⟩, fun _ => trivial⟩ ?_
      clear hK K
      refine anyS_ready (rs := [8, 14]) (by kernel_rfl) (by simp) ?_
      refine AllS.cons rfl (fun K hK => ?_) (AllS.cons rfl (fun K hK => ?_) AllS.nil)
      · go_simp
        refine hK.out _ _ ⟨⟨P.out.1 _, P.out.2.1 _⟩, fun _ => trivial⟩ ?_
        clear hK K
        refine till_take_R (i := 13) 27 (.agg #[.slice (some ⟨w1.heap.size, 0, none⟩) 0 0, .int .i64 dp]) rfl rfl (by kernel_rfl) (by kernel_rfl) (by kernel_rfl) (by decide) (fun _ _ _ h => h) (Or.inl ⟨by rfl, ?_⟩) ⟨⟨P.out.1 _, P.out.2.1 _⟩, fun _ => trivial⟩ ?_
        · intro W hW; obtain ⟨h0, h1⟩ := hW; go_simp
        simp only [Act.put, List.setIfInBounds_toArray, List.set_cons_zero, List.set_cons_succ]
        refine anyS_ready (rs := [14]) (by kernel_rfl) (by simp) ?_
        refine AllS.cons rfl (fun K hK => ?_) AllS.nil
        go_simp
        refine hK.out _ _ ⟨⟨P.out.2.2.1 _ _, P.out.2.2.2 _ _⟩, fun _ => trivial⟩ ?_
        clear hK K
        refine anyS_ready (rs := [15]) (by kernel_rfl) (by simp) ?_
        refine AllS.cons rfl (fun K hK => ?_) AllS.nil
        go_simp
        refine hK.out _ _ ⟨⟨P.out.2.2.1 _ _, P.out.2.2.2 _ _⟩, fun _ => trivial⟩ ?_
        clear hK K
        refine anyS_done (by kernel_rfl) ?_ _
        obtain ⟨hb, hd⟩ := leaf0a (L := L) (dp := dp) HBD.out HSZ.out
        have HT := Lib.hid (trim_any _ _ _ _ _ hd (by first | (simp; done) | (simp; omega)))
        have HB := Lib.hid hb
        clear hb hd
        go_wp2_with fail
        refine HT.out.mono ?_
        rintro e w7 hT
        have HP := Lib.hid (down_close HB.out (by have := HSZ.out; omega) hT)
        obtain ⟨rfl, -⟩ := hT
        go_wp2_with fail
        go_ret
        exact HP.out
      · go_simp
        refine hK.out _ _ ⟨⟨P.out.2.2.1 _ _, P.out.2.2.2 _ _⟩, fun _ => trivial⟩ ?_
        clear hK K
        refine anyS_ready (rs := [8]) (by kernel_rfl) (by simp) ?_
        refine AllS.cons rfl (fun K hK => ?_) AllS.nil
        go_simp
        refine hK.out _ _ ⟨⟨P.out.2.2.1 _ _, P.out.2.2.2 _ _⟩, fun _ => trivial⟩ ?_
        clear hK K
        refine till_take_R (i := 13) 27 (.agg #[.slice (some ⟨w1.heap.size, 0, none⟩) 0 0, .int .i64 dp]) rfl rfl (by kernel_rfl) (by kernel_rfl) (by kernel_rfl) (by decide) (fun _ _ _ h => h) (Or.inl ⟨by rfl, ?_⟩) ⟨⟨P.out.2.2.1 _ _, P.out.2.2.2 _ _⟩, fun _ => trivial⟩ ?_
        · intro W hW; obtain ⟨h0, h1⟩ := hW; go_simp
        simp only [Act.put, List.setIfInBounds_toArray, List.set_cons_zero, List.set_cons_succ]
        refine anyS_ready (rs := [15]) (by kernel_rfl) (by simp) ?_
        refine AllS.cons rfl (fun K hK => ?_) AllS.nil
        go_simp
        refine hK.out _ _ ⟨⟨P.out.2.2.1 _ _, P.out.2.2.2 _ _⟩, fun _ => trivial⟩ ?_
        clear hK K
        refine anyS_done (by kernel_rfl) ?_ _
        obtain ⟨hb, hd⟩ := leaf0a (L := L) (dp := dp) HBD.out HSZ.out
        have HT := Lib.hid (trim_any _ _ _ _ _ hd (by first | (simp; done) | (simp; omega)))
        have HB := Lib.hid hb
        clear hb hd
        go_wp2_with fail
        refine HT.out.mono ?_
        rintro e w7 hT
        have HP := Lib.hid (down_close HB.out (by have := HSZ.out; omega) hT)
        obtain ⟨rfl, -⟩ := hT
        go_wp2_with fail
        go_ret
        exact HP.out
    · go_simp
      refine hK.out _ _ ⟨⟨P.out.1 _, P.out.2.1 _⟩, fun _ => trivial⟩ ?_
      clear hK K
      refine anyS_ready (rs := [0]) (by kernel_rfl) (by simp) ?_
      refine AllS.cons rfl (fun K hK => ?_) AllS.nil
      go_simp
      refine hK.out _ _ ⟨⟨P.out.2.2.1 _ _, P.out.2.2.2 _ _⟩, fun _ => trivial⟩ ?_
      clear hK K
      refine anyS_ready (rs := [8]) (by kernel_rfl) (by simp) ?_
      refine AllS.cons rfl (fun K hK => ?_) AllS.nil
      go_simp
      refine hK.out _ _ ⟨⟨P.out.2.2.1 _ _, P.out.2.2.2 _ _⟩, fun _ => trivial⟩ ?_
      clear hK K
      refine till_take_R (i := 13) 27 (.agg #[.slice (some ⟨w1.heap.size + 1, 0, none⟩) 0 0, .int .i64 dp]) rfl rfl (by kernel_rfl) (by kernel_rfl) (by kernel_rfl) (by decide) (fun _ _ _ h => h) (Or.inl ⟨by rfl, ?_⟩) ⟨⟨P.out.2.2.1 _ _, P.out.2.2.2 _ _⟩, fun _ => trivial⟩ ?_
      · intro W hW; obtain ⟨h0, h1⟩ := hW; go_simp
      simp only [Act.put, List.setIfInBounds_toArray, List.set_cons_zero, List.set_cons_succ]
      refine anyS_ready (rs := [15]) (by kernel_rfl) (by simp) ?_
      refine AllS.cons rfl (fun K hK => ?_) AllS.nil
      go_simp
      refine hK.out _ _ ⟨⟨P.out.2.2.1 _ _, P.out.2.2.2 _ _⟩, fun _ => trivial⟩ ?_
      clear hK K
      refine anyS_done (by kernel_rfl) ?_ _
      obtain ⟨hb, hd⟩ := leaf0b (L := L) (dp := dp) HBD.out HSZ.out
      have HT := Lib.hid (trim_any _ _ _ _ _ hd (by first | (simp; done) | (simp; omega)))
      have HB := Lib.hid hb
      clear hb hd
      go_wp2_with fail
      refine HT.out.mono ?_
      rintro e w7 hT
      have HP := Lib.hid (down_close HB.out (by have := HSZ.out; omega) hT)
      obtain ⟨rfl, -⟩ := hT
      go_wp2_with fail
      go_ret
      exact HP.out
  · have hnp : 0 < n := Nat.pos_of_ne_zero hnz
    refine wp_region_S (Sf := Till 15 (fun W => W.cell? ⟨p, 0, none⟩ = some (.slice (some ⟨g, 0, none⟩) m c) ∧ W.cell? ⟨p, 1, none⟩ = some (.int .i64 dp)) (fun _ => True)) (by kernel_rfl) ?_
    have HBD := Lib.hid (show Below w.heap.size w w.drew from (Below.refl _ _).drew)
    have c0d : w.drew.cell? ⟨p, 0, none⟩ = some (.slice (some ⟨g, 0, none⟩) m c) := c0
    have c1d : w.drew.cell? ⟨p, 1, none⟩ = some (.int .i64 dp) := c1
    have hszd : w.drew.heap.size = w.heap.size := rfl
    have HCD : Hid (∀ (i a : Nat), L[i]? = some a → w.drew.cell? ⟨g, i, none⟩ = some (.int .u8 a)) := HC
    clear c0 c1 HC
    generalize w.drew = w1 at *
    rw [← hszd] at hg hltp
    have HSZ := Lib.hid hszd
    clear hszd
    have p0 : ∀ o, (w1.alloc o).cell? ⟨p, 0, none⟩ = some (.slice (some ⟨g, 0, none⟩) m c) := fun o => (World.cell?_alloc_lt _ _ _ hltp).trans c0d
    have p1 : ∀ o, (w1.alloc o).cell? ⟨p, 1, none⟩ = some (.int .i64 dp) := fun o => (World.cell?_alloc_lt _ _ _ hltp).trans c1d
    have pp0 : ∀ o o', ((w1.alloc o).alloc o').cell? ⟨p, 0, none⟩ = some (.slice (some ⟨g, 0, none⟩) m c) := fun o o' => (World.cell?_alloc_lt _ _ _ (by simp; omega)).trans (p0 o)
    have pp1 : ∀ o o', ((w1.alloc o).alloc o').cell? ⟨p, 1, none⟩ = some (.int .i64 dp) := fun o o' => (World.cell?_alloc_lt _ _ _ (by simp; omega)).trans (p1 o)
    have P := Lib.hid (And.intro p0 (And.intro p1 (And.intro pp0 pp1)))
    clear p0 p1 pp0 pp1
    refine till_take_R (i := 1) 15 (.pointer (some ⟨p, 0, none⟩)) rfl rfl (by kernel_rfl) (by kernel_rfl) (by kernel_rfl) (by decide) (fun _ _ _ h => h) (Or.inl ⟨by rfl, ?_⟩) ⟨⟨c0d, c1d⟩, fun _ => trivial⟩ ?_
    · intro W hW; obtain ⟨h0, h1⟩ := hW; go_simp
    simp only [Act.put, List.setIfInBounds_toArray, List.set_cons_zero, List.set_cons_succ]
    refine till_take_R (i := 2) 16 (.pointer (some ⟨p, 0, none⟩)) rfl rfl (by kernel_rfl) (by kernel_rfl) (by kernel_rfl) (by decide) (fun _ _ _ h => h) (Or.inl ⟨by rfl, ?_⟩) ⟨⟨c0d, c1d⟩, fun _ => trivial⟩ ?_
    · intro W hW; obtain ⟨h0, h1⟩ := hW; go_simp
    simp only [Act.put, List.setIfInBounds_toArray, List.set_cons_zero, List.set_cons_succ]
    refine till_take_R (i := 3) 17 (.pointer (some ⟨p, 0, none⟩)) rfl rfl (by kernel_rfl) (by kernel_rfl) (by kernel_rfl) (by decide) (fun _ _ _ h => h) (Or.inl ⟨by rfl, ?_⟩) ⟨⟨c0d, c1d⟩, fun _ => trivial⟩ ?_
    · intro W hW; obtain ⟨h0, h1⟩ := hW; go_simp
    simp only [Act.put, List.setIfInBounds_toArray, List.set_cons_zero, List.set_cons_succ]
    refine till_take_R (i := 4) 18 (.slice (some ⟨g, 0, none⟩) m c) rfl rfl (by kernel_rfl) (by kernel_rfl) (by kernel_rfl) (by decide) (fun _ _ _ h => h) (Or.inl ⟨by rfl, ?_⟩) ⟨⟨c0d, c1d⟩, fun _ => trivial⟩ ?_
    · intro W hW; obtain ⟨h0, h1⟩ := hW; go_simp
    simp only [Act.put, List.setIfInBounds_toArray, List.set_cons_zero, List.set_cons_succ]
    refine till_take_R (i := 5) 19 (.int .i64 n) rfl rfl (by kernel_rfl) (by kernel_rfl) (by kernel_rfl) (by decide) (fun _ _ _ h => h) (Or.inl ⟨by rfl, ?_⟩) ⟨⟨c0d, c1d⟩, fun _ => trivial⟩ ?_
    · intro W hW; obtain ⟨h0, h1⟩ := hW; go_simp
    simp only [Act.put, List.setIfInBounds_toArray, List.set_cons_zero, List.set_cons_succ]
    refine till_take_R (i := 6) 20 (.int .i64 n) rfl rfl (by kernel_rfl) (by kernel_rfl) (by kernel_rfl) (by decide) (fun _ _ _ h => h) (Or.inl ⟨by rfl, ?_⟩) ⟨⟨c0d, c1d⟩, fun _ => trivial⟩ ?_
    · intro W hW; obtain ⟨h0, h1⟩ := hW; go_simp; try (intros; omega)
    simp only [Act.put, List.setIfInBounds_toArray, List.set_cons_zero, List.set_cons_succ]
    refine till_take_R (i := 7) 21 (.slice (some ⟨g, 0, none⟩) n c) rfl rfl (by kernel_rfl) (by kernel_rfl) (by kernel_rfl) (by decide) (fun _ _ _ h => h) (Or.inl ⟨by rfl, ?_⟩) ⟨⟨c0d, c1d⟩, fun _ => trivial⟩ ?_
    · intro W hW; obtain ⟨h0, h1⟩ := hW; go_simp
    simp only [Act.put, List.setIfInBounds_toArray, List.set_cons_zero, List.set_cons_succ]
    refine till_take_R (i := 9) 23 (.pointer (some ⟨p, 0, none⟩)) rfl rfl (by kernel_rfl) (by kernel_rfl) (by kernel_rfl) (by decide) (fun _ _ _ h => h) (Or.inl ⟨by rfl, ?_⟩) ⟨⟨c0d, c1d⟩, fun _ => trivial⟩ ?_
    · intro W hW; obtain ⟨h0, h1⟩ := hW; go_simp
    simp only [Act.put, List.setIfInBounds_toArray, List.set_cons_zero, List.set_cons_succ]
    refine till_take_R (i := 10) 24 (.pointer (some ⟨p, 0, none⟩)) rfl rfl (by kernel_rfl) (by kernel_rfl) (by kernel_rfl) (by decide) (fun _ _ _ h => h) (Or.inl ⟨by rfl, ?_⟩) ⟨⟨c0d, c1d⟩, fun _ => trivial⟩ ?_
    · intro W hW; obtain ⟨h0, h1⟩ := hW; go_simp
    simp only [Act.put, List.setIfInBounds_toArray, List.set_cons_zero, List.set_cons_succ]
    refine till_take_R (i := 11) 25 (.pointer (some ⟨p, 1, none⟩)) rfl rfl (by kernel_rfl) (by kernel_rfl) (by kernel_rfl) (by decide) (fun _ _ _ h => h) (Or.inl ⟨by rfl, ?_⟩) ⟨⟨c0d, c1d⟩, fun _ => trivial⟩ ?_
    · intro W hW; obtain ⟨h0, h1⟩ := hW; go_simp
    simp only [Act.put, List.setIfInBounds_toArray, List.set_cons_zero, List.set_cons_succ]
    refine till_take_R (i := 12) 26 (.int .i64 dp) rfl rfl (by kernel_rfl) (by kernel_rfl) (by kernel_rfl) (by decide) (fun _ _ _ h => h) (Or.inl ⟨by rfl, ?_⟩) ⟨⟨c0d, c1d⟩, fun _ => trivial⟩ ?_
    · intro W hW; obtain ⟨h0, h1⟩ := hW; go_simp
    simp only [Act.put, List.setIfInBounds_toArray, List.set_cons_zero, List.set_cons_succ]
    refine anyS_ready (rs := [0, 14]) (by kernel_rfl) (by simp) ?_
    refine AllS.cons rfl (fun K hK => ?_) (AllS.cons rfl (fun K hK => ?_) AllS.nil)
    · go_simp
      refine hK.out _ _ ⟨⟨P.out.1 _, P.out.2.1 _⟩, fun _ => trivial⟩ ?_
      clear hK K
      refine anyS_ready (rs := [8, 14]) (by kernel_rfl) (by simp) ?_
      refine AllS.cons rfl (fun K hK => ?_) (AllS.cons rfl (fun K hK => ?_) AllS.nil)
      · refine step_append_lies _ (by rfl) _ _ 72 (by rfl) w1.heap.size 5 i5 (.int .u8 0) 1 1 Tryz.underlying72 hi hz0 hz1 hz2 rfl (by decide) (.slice (some ⟨w1.heap.size, 0, none⟩) 0 0) 0 [] (by rfl) (ownEmpty w1 (Nat.le_refl _)) ⟨g, 0, none⟩ n c (encN (L.take n)) (by rfl) (encN_take (by omega)) (fun j u hj => srcCell1 HCD.out hg hj) (by simp [encN, Value.oneCell']; intro u hu; obtain ⟨_, _, rfl⟩ := List.mem_map.1 (List.mem_of_mem_take hu); rfl) (by omega) (by unfold maxLen; omega) (by omega) (by first | (simp; done) | (simp; omega)) _ rfl ?_
        intro g2 cap w6 hown6 hg6 hat6 hlt6
        simp only [Nat.zero_add, List.nil_append] at hown6 ⊢
        have q0 : w6.cell? ⟨p, 0, none⟩ = some (.slice (some ⟨g, 0, none⟩) m c) := (World.cell?_of_block (hg6.block p (by simp; omega) (fun e => by simp [Value.ownBlock] at e; omega))).trans (P.out.1 _)
        have q1 : w6.cell? ⟨p, 1, none⟩ = some (.int .i64 dp) := (World.cell?_of_block (hg6.block p (by simp; omega) (fun e => by simp [Value.ownBlock] at e; omega))).trans (P.out.2.1 _)
        have hge2 := (hown6.lt g2 rfl).1
        have h61 := hg6.size
        have hp6 : p < w6.heap.size := by simp at h61; omega
        have R6 := Lib.hid (And.intro (fun o => (World.cell?_alloc_lt w6 o ⟨p, 0, none⟩ hp6).trans q0) (fun o => (World.cell?_alloc_lt w6 o ⟨p, 1, none⟩ hp6).trans q1))
        have HO6 := Lib.hid (And.intro hown6 (And.intro hg6 hat6))
        clear hown6 hg6 hat6
        change K (Act.put _ (some 22) _) _
        refine hK.out _ _ ⟨⟨q0, q1⟩, fun _ => trivial⟩ ?_
        clear hK K
        refine till_take_R (i := 13) 27 (.agg #[.slice (some ⟨g2, 0, none⟩) n cap, .int .i64 dp]) rfl rfl (by kernel_rfl) (by kernel_rfl) (by kernel_rfl) (by decide) (fun _ _ _ h => h) (Or.inl ⟨by rfl, ?_⟩) ⟨⟨q0, q1⟩, fun _ => trivial⟩ ?_
        · intro W hW; obtain ⟨h0, h1⟩ := hW; go_simp
        simp only [Act.put, List.setIfInBounds_toArray, List.set_cons_zero, List.set_cons_succ]
        refine anyS_ready (rs := [14]) (by kernel_rfl) (by simp) ?_
        refine AllS.cons rfl (fun K hK => ?_) AllS.nil
        go_simp
        refine hK.out _ _ ⟨⟨R6.out.1 _, R6.out.2 _⟩, fun _ => trivial⟩ ?_
        clear hK K
        refine anyS_ready (rs := [15]) (by kernel_rfl) (by simp) ?_
        refine AllS.cons rfl (fun K hK => ?_) AllS.nil
        go_simp
        refine hK.out _ _ ⟨⟨R6.out.1 _, R6.out.2 _⟩, fun _ => trivial⟩ ?_
        clear hK K
        refine anyS_done (by kernel_rfl) ?_ _
        obtain ⟨hb, hd⟩ := leaf1 (dp := dp) HBD.out HSZ.out (by omega) HO6.out.1 HO6.out.2.1
        have HT := Lib.hid (trim_any _ _ _ _ _ hd (by first | (simp; done) | (simp; omega)))
        have HB := Lib.hid hb
        clear hb hd
        go_wp2_with fail
        refine HT.out.mono ?_
        rintro e w7 hT
        have HP := Lib.hid (down_close HB.out (by have := HSZ.out; omega) hT)
        obtain ⟨rfl, -⟩ := hT
        go_wp2_with fail
        go_ret
        exact HP.out
      · go_simp
        refine hK.out _ _ ⟨⟨P.out.2.2.1 _ _, P.out.2.2.2 _ _⟩, fun _ => trivial⟩ ?_
        clear hK K
        refine anyS_ready (rs := [8]) (by kernel_rfl) (by simp) ?_
        refine AllS.cons rfl (fun K hK => ?_) AllS.nil
        refine step_append_lies _ (by rfl) _ _ 72 (by rfl) w1.heap.size 5 i5 (.int .u8 0) 1 1 Tryz.underlying72 hi hz0 hz1 hz2 rfl (by decide) (.slice (some ⟨w1.heap.size, 0, none⟩) 0 0) 0 [] (by rfl) ((ownEmpty w1 (Nat.le_refl _)).alloc _) ⟨g, 0, none⟩ n c (encN (L.take n)) (by rfl) (encN_take (by omega)) (fun j u hj => srcCell2 HCD.out hg hj) (by simp [encN, Value.oneCell']; intro u hu; obtain ⟨_, _, rfl⟩ := List.mem_map.1 (List.mem_of_mem_take hu); rfl) (by omega) (by unfold maxLen; omega) (by omega) (by first | (simp; done) | (simp; omega)) _ rfl ?_
        intro g2 cap w6 hown6 hg6 hat6 hlt6
        simp only [Nat.zero_add, List.nil_append] at hown6 ⊢
        have q0 : w6.cell? ⟨p, 0, none⟩ = some (.slice (some ⟨g, 0, none⟩) m c) := (World.cell?_of_block (hg6.block p (by simp; omega) (fun e => by simp [Value.ownBlock] at e; omega))).trans (P.out.2.2.1 _ _)
        have q1 : w6.cell? ⟨p, 1, none⟩ = some (.int .i64 dp) := (World.cell?_of_block (hg6.block p (by simp; omega) (fun e => by simp [Value.ownBlock] at e; omega))).trans (P.out.2.2.2 _ _)
        have hge2 := (hown6.lt g2 rfl).1
        have h61 := hg6.size
        have hne6 : w1.heap.size + 1 ≠ g2 := by simp [Value.ownBlock] at hat6; omega
        have hbq : DBox w6 (w1.heap.size + 1) (.slice none 0 0) 0 := (DBox.of_new2 w1 _).keep hg6 (fun e => by simp [Value.ownBlock] at e)
        have qc0 := hbq.cell0
        have qc1 := hbq.cell1
        have qf0 := hbq.frozen 0
        have qf1 := hbq.frozen 1
        have qlt := hbq.lt
        clear hbq
        have hp6 : p < w6.heap.size := by simp at h61; omega
        have R6 := Lib.hid (And.intro (fun o => (World.cell?_alloc_lt w6 o ⟨p, 0, none⟩ hp6).trans q0) (fun o => (World.cell?_alloc_lt w6 o ⟨p, 1, none⟩ hp6).trans q1))
        have HO6 := Lib.hid (And.intro hown6 (And.intro hg6 hat6))
        clear hown6 hg6 hat6
        change K (Act.put _ (some 22) _) _
        refine hK.out _ _ ⟨⟨q0, q1⟩, fun _ => trivial⟩ ?_
        clear hK K
        refine till_take_R (i := 13) 27 (.agg #[.slice (some ⟨g2, 0, none⟩) n cap, .int .i64 dp]) rfl rfl (by kernel_rfl) (by kernel_rfl) (by kernel_rfl) (by decide) (fun _ _ _ h => h) (Or.inl ⟨by rfl, ?_⟩) ⟨⟨q0, q1⟩, fun _ => trivial⟩ ?_
        · intro W hW; obtain ⟨h0, h1⟩ := hW; go_simp
        simp only [Act.put, List.setIfInBounds_toArray, List.set_cons_zero, List.set_cons_succ]
        refine anyS_ready (rs := [15]) (by kernel_rfl) (by simp) ?_
        refine AllS.cons rfl (fun K hK => ?_) AllS.nil
        go_simp
        refine hK.out _ _ ⟨⟨(cell_two_ne (b := w1.heap.size + 1) _ _ hp6 (by omega)).trans q0, (cell_two_ne (b := w1.heap.size + 1) _ _ hp6 (by omega)).trans q1⟩, fun _ => trivial⟩ ?_
        clear hK K
        refine anyS_done (by kernel_rfl) ?_ _
        obtain ⟨hb, hd⟩ := leaf2 (q := w1.heap.size + 1) (e := w1.heap.size) (dp := dp) HBD.out HSZ.out (by omega) HO6.out.1 HO6.out.2.1 (Nat.le_refl _) (by omega) (by omega) hne6 (DBox.of_new2 w1 _)
        have HT := Lib.hid (trim_any _ _ _ _ _ hd (by first | (simp; done) | (simp; omega)))
        have HB := Lib.hid hb
        clear hb hd
        go_wp2_with fail
        refine HT.out.mono ?_
        rintro e w7 hT
        have HP := Lib.hid (down_close HB.out (by have := HSZ.out; omega) hT)
        obtain ⟨rfl, -⟩ := hT
        go_wp2_with fail
        go_ret
        exact HP.out
    · go_simp
      refine hK.out _ _ ⟨⟨P.out.1 _, P.out.2.1 _⟩, fun _ => trivial⟩ ?_
      clear hK K
      refine anyS_ready (rs := [0]) (by kernel_rfl) (by simp) ?_
      refine AllS.cons rfl (fun K hK => ?_) AllS.nil
      go_simp
      refine hK.out _ _ ⟨⟨P.out.2.2.1 _ _, P.out.2.2.2 _ _⟩, fun _ => trivial⟩ ?_
      clear hK K
      refine anyS_ready (rs := [8]) (by kernel_rfl) (by simp) ?_
      refine AllS.cons rfl (fun K hK => ?_) AllS.nil
      refine step_append_lies _ (by rfl) _ _ 72 (by rfl) w1.heap.size 5 i5 (.int .u8 0) 1 1 Tryz.underlying72 hi hz0 hz1 hz2 rfl (by decide) (.slice (some ⟨w1.heap.size + 1, 0, none⟩) 0 0) 0 [] (by rfl) (ownEmpty2 w1 _ (Nat.le_refl _)) ⟨g, 0, none⟩ n c (encN (L.take n)) (by rfl) (encN_take (by omega)) (fun j u hj => srcCell2 HCD.out hg hj) (by simp [encN, Value.oneCell']; intro u hu; obtain ⟨_, _, rfl⟩ := List.mem_map.1 (List.mem_of_mem_take hu); rfl) (by omega) (by unfold maxLen; omega) (by omega) (by first | (simp; done) | (simp; omega)) _ rfl ?_
      intro g2 cap w6 hown6 hg6 hat6 hlt6
      simp only [Nat.zero_add, List.nil_append] at hown6 ⊢
      have q0 : w6.cell? ⟨p, 0, none⟩ = some (.slice (some ⟨g, 0, none⟩) m c) := (World.cell?_of_block (hg6.block p (by simp; omega) (fun e => by simp [Value.ownBlock] at e; omega))).trans (P.out.2.2.1 _ _)
      have q1 : w6.cell? ⟨p, 1, none⟩ = some (.int .i64 dp) := (World.cell?_of_block (hg6.block p (by simp; omega) (fun e => by simp [Value.ownBlock] at e; omega))).trans (P.out.2.2.2 _ _)
      have hge2 := (hown6.lt g2 rfl).1
      have h61 := hg6.size
      have hne6 : w1.heap.size ≠ g2 := by simp [Value.ownBlock] at hat6; omega
      have hbq : DBox w6 (w1.heap.size) (.slice none 0 0) 0 := (DBox.of_new1 w1 _).keep hg6 (fun e => by simp [Value.ownBlock] at e)
      have qc0 := hbq.cell0
      have qc1 := hbq.cell1
      have qf0 := hbq.frozen 0
      have qf1 := hbq.frozen 1
      have qlt := hbq.lt
      clear hbq
      have hp6 : p < w6.heap.size := by simp at h61; omega
      have R6 := Lib.hid (And.intro (fun o => (World.cell?_alloc_lt w6 o ⟨p, 0, none⟩ hp6).trans q0) (fun o => (World.cell?_alloc_lt w6 o ⟨p, 1, none⟩ hp6).trans q1))
      have HO6 := Lib.hid (And.intro hown6 (And.intro hg6 hat6))
      clear hown6 hg6 hat6
      change K (Act.put _ (some 22) _) _
      refine hK.out _ _ ⟨⟨q0, q1⟩, fun _ => trivial⟩ ?_
      clear hK K
      refine till_take_R (i := 13) 27 (.agg #[.slice (some ⟨g2, 0, none⟩) n cap, .int .i64 dp]) rfl rfl (by kernel_rfl) (by kernel_rfl) (by kernel_rfl) (by decide) (fun _ _ _ h => h) (Or.inl ⟨by rfl, ?_⟩) ⟨⟨q0, q1⟩, fun _ => trivial⟩ ?_
      · intro W hW; obtain ⟨h0, h1⟩ := hW; go_simp
      simp only [Act.put, List.setIfInBounds_toArray, List.set_cons_zero, List.set_cons_succ]
      refine anyS_ready (rs := [15]) (by kernel_rfl) (by simp) ?_
      refine AllS.cons rfl (fun K hK => ?_) AllS.nil
      go_simp
      refine hK.out _ _ ⟨⟨(cell_two_ne (b := w1.heap.size) _ _ hp6 (by omega)).trans q0, (cell_two_ne (b := w1.heap.size) _ _ hp6 (by omega)).trans q1⟩, fun _ => trivial⟩ ?_
      clear hK K
      refine anyS_done (by kernel_rfl) ?_ _
      obtain ⟨hb, hd⟩ := leaf2 (q := w1.heap.size) (e := w1.heap.size + 1) (dp := dp) HBD.out HSZ.out (by omega) HO6.out.1 HO6.out.2.1 (by omega) (Nat.le_refl _) (by omega) hne6 (DBox.of_new1 w1 _)
      have HT := Lib.hid (trim_any _ _ _ _ _ hd (by first | (simp; done) | (simp; omega)))
      have HB := Lib.hid hb
      clear hb hd
      go_wp2_with fail
      refine HT.out.mono ?_
      rintro e w7 hT
      have HP := Lib.hid (down_close HB.out (by have := HSZ.out; omega) hT)
      obtain ⟨rfl, -⟩ := hT
      go_wp2_with fail
      go_ret
      exact HP.out
end Go.Proofs.YtpigccnlembfdaaGreatDoor
