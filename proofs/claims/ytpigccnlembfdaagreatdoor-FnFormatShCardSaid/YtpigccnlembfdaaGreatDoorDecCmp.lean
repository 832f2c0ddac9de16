/- The walks of a decimal's shift to the right and of cmp where the first is the greater. Conditions: as each theorem states. -/
import Derived.Test.YtpigccnlembfdaaGreatDoorHalve
namespace Go.Proofs.YtpigccnlembfdaaGreatDoor
open Go.RowKit

theorem shift_any (w : World) (p : Nat) (L : List Nat) (dp : Int) (v : Value) (A B k : Nat) (h : DecAt w p L dp v) (hm : Dm L dp A B) (hL : L.length ≤ 20) (hdp : dp ≤ 1000) (hdp2 : -1000 ≤ dp) (hk : k ≤ 59) (hk1 : 1 ≤ k) (hA : 0 < A) :
    Calls Tryz.prog 117 #[.pointer (some ⟨p, 0, none⟩), .int .i64 (-(k : Int))] w (HalfPost p A (B * 2 ^ k) w) := by
  have HH := Lib.hid (half_any w p L dp v A B k h hm hL hdp hdp2 hk hA)
  clear h hm
  have hw : IntKind.i64.wrap (-(-(k : Int))) = (k : Int) := by rw [IntWalk.i64_in _ (by omega)]; omega
  have HW := Lib.hid hw
  clear hw
  go_enter Tryz.func117, Tryz.ntmps117
  go_wp2_with fail
  refine wp_loop_rounds 1 ?_
  rw [rounds_succ]
  go_wp2_with fail
  refine wp_loop_rounds 1 ?_
  rw [rounds_succ]
  go_wp2_with fail
  first | rw [HW.out] | skip
  refine HH.out.mono ?_
  rintro e w2 ⟨rfl, hg, hx⟩
  have HX := Lib.hid hx
  clear hx
  go_wp2_with fail
  go_end0
  exact ⟨rfl, hg, HX.out⟩

/-- The first decimal is the greater: by its point's place, or at the first digit where they part. -/
def CmpGt (La : List Nat) (dpa : Int) (Lb : List Nat) (dpb : Int) : Prop := La ≠ [] ∧ (Lb = [] ∨ (Lb ≠ [] ∧ (dpb < dpa ∨ (dpa = dpb ∧ ∃ i, (∀ j, j < i → at0 La j = at0 Lb j) ∧ at0 Lb i < at0 La i))))
def PosPost (w : World) (e : Ending) (w' : World) : Prop := ∃ x : Int, 0 < x ∧ x ≤ 1000000 ∧ e = .returned (.int .i64 x) ∧ Below w.heap.size w w'
theorem below_drewN (w : World) (n : Nat) : Below w.heap.size w (w.drewN n) := ⟨rfl, rfl, rfl, Nat.le_refl _, fun _ _ => rfl⟩
theorem at0_lt {L : List Nat} (ht : Ten L) (i : Nat) : at0 L i < 10 := by
  unfold at0
  rw [List.getD_eq_getElem?_getD]
  cases h : L[i]? with
  | none => decide
  | some d => exact ht d (List.mem_of_getElem? h)
theorem at0_len {L : List Nat} {i : Nat} (h : 0 < at0 L i) : i < L.length := by
  refine Nat.lt_of_not_le fun hle => ?_
  unfold at0 at h
  rw [List.getD_eq_getElem?_getD, List.getElem?_eq_none hle] at h
  exact absurd h (by decide)
set_option maxRecDepth 100000 in
set_option maxHeartbeats 4000000 in
theorem cmp_any (w : World) (p q : Nat) (La Lb : List Nat) (dpa dpb : Int) (va vb : Value) (ha : DecAt w p La dpa va) (hb : DecAt w q Lb dpb vb) (hgt : CmpGt La dpa Lb dpb) (hta : Ten La) (htb : Ten Lb)
    (hla : La.length ≤ 1000) (hlb : Lb.length ≤ 1000) (h1 : dpa ≤ 2000) (h2 : -2000 ≤ dpa) (h3 : dpb ≤ 2000) (h4 : -2000 ≤ dpb) :
    Calls Tryz.prog 158 #[.pointer (some ⟨p, 0, none⟩), .pointer (some ⟨q, 0, none⟩)] w (PosPost w) := by
  obtain ⟨hne, hgt⟩ := hgt
  have a0 := ha.box.cell0
  have a1 := ha.box.cell1
  have b0 := hb.box.cell0
  have b1 := hb.box.cell1
  have HA := Lib.hid ha
  have HB := Lib.hid hb
  obtain ⟨A, ca, rfl⟩ := ha.dig.shape
  obtain ⟨B, cb, rfl⟩ := hb.dig.shape
  have hap : 0 < La.length := List.length_pos_iff.2 hne
  have ha0 : ((La.length : Int) == 0) = false := by rw [beq_eq_false_iff_ne]; omega
  clear ha hb
  rcases hgt with hbn | ⟨hbn, hdp | ⟨hdp, i, hag, hi⟩⟩
  · have hb0 : Lb.length = 0 := by rw [hbn]; rfl
    obtain ⟨na, hna⟩ : ∃ na, na = La.length := ⟨_, rfl⟩
    rw [← hna] at a0 hap ha0 hla
    rw [hb0] at b0
    have hwn : IntKind.i64.wrap (na : Int) = (na : Int) := IntWalk.i64_in _ (by omega)
    clear HA HB hna hbn hb0 hlb hne
    go_enter Tryz.func158, Tryz.ntmps158
    go_wp2_with fail
    go_quiet (fail)
    go_wp2_with fail
    go_ret
    exact ⟨na, by omega, by omega, rfl, below_drewN _ _⟩
  · have hb0 : ((Lb.length : Int) == 0) = false := by rw [beq_eq_false_iff_ne]; have := List.length_pos_iff.2 hbn; omega
    generalize La.length = na at *
    generalize Lb.length = nb at *
    have hne2 : (dpa != dpb) = true := by rw [bne_iff_ne]; omega
    have hwd : IntKind.i64.wrap (dpa - dpb) = dpa - dpb := IntWalk.i64_in _ (by omega)
    clear HA HB
    go_enter Tryz.func158, Tryz.ntmps158
    go_wp2_with fail
    go_quiet (fail)
    go_wp2_with fail
    have HW := Lib.hid (below_drewN w nq)
    have a1' : (w.drewN nq).cell? ⟨p, 1, none⟩ = some (.int .i64 dpa) := a1
    have b1' : (w.drewN nq).cell? ⟨q, 1, none⟩ = some (.int .i64 dpb) := b1
    clear a0 a1 b0 b1
    generalize w.drewN nq = w1 at *
    go_quiet (fail)
    go_wp2_with fail
    go_ret
    exact ⟨dpa - dpb, by omega, by omega, rfl, HW.out.trans ((below_drewN _ _).mono HW.out.size)⟩
  · have hb0 : ((Lb.length : Int) == 0) = false := by rw [beq_eq_false_iff_ne]; have := List.length_pos_iff.2 hbn; omega
    subst hdp
    have hiA := at0_len (Nat.lt_of_le_of_lt (Nat.zero_le _) hi)
    have HAG := Lib.hid (And.intro hag hi)
    obtain ⟨na, hna⟩ : ∃ na, na = La.length := ⟨_, rfl⟩
    obtain ⟨nb, hnb⟩ : ∃ nb, nb = Lb.length := ⟨_, rfl⟩
    rw [← hna] at a0 ha0 hap hla hiA
    rw [← hnb] at b0 hb0 hlb
    have hlaa : La.length ≤ 1000000 := by omega
    have hlbb : Lb.length ≤ 1000000 := by omega
    have HL := Lib.hid (And.intro hlaa hlbb)
    have HNA := Lib.hid hna
    have HNB := Lib.hid hnb
    clear hna hnb hag hi hlaa hlbb
    go_enter Tryz.func158, Tryz.ntmps158
    go_wp2_with fail
    go_quiet (fail)
    go_wp2_with fail
    have HW := Lib.hid (below_drewN w nq)
    have HA1 := Lib.hid (HA.out.below HW.out)
    have HB1 := Lib.hid (HB.out.below HW.out)
    clear a0 a1 b0 b1 HA HB
    generalize w.drewN nq = w1 at *
    have a0 := HA1.out.box.cell0
    have b0 := HB1.out.box.cell0
    rw [← HNA.out] at a0
    rw [← HNB.out] at b0
    go_loop [5] (fun iv => ∃ k : Nat, k ≤ i ∧ iv = .int .i64 k) (fun iv => i + 1 - (intOf iv).toNat)
    case atStart => exact ⟨0, Nat.zero_le _, rfl⟩
    case round =>
      obtain ⟨k, hk, rfl⟩ := hrel
      have hkn : k < na := by omega
      have HDA := Lib.hid (digit_any w1 p La dpa _ HA1.out k HL.out.1)
      have HDB := Lib.hid (digit_any w1 q Lb dpa _ HB1.out k HL.out.2)
      obtain ⟨x, hx⟩ : ∃ x, x = at0 La k := ⟨_, rfl⟩
      obtain ⟨y, hy⟩ : ∃ y, y = at0 Lb k := ⟨_, rfl⟩
      have hx10 : x < 10 := by rw [hx]; exact at0_lt hta k
      have hy10 : y < 10 := by rw [hy]; exact at0_lt htb k
      rw [← hx] at HDA
      rw [← hy] at HDB
      have hkz : (k : Int) < (na : Int) := by omega
      by_cases hki : k < i
      · have hxy : x = y := by rw [hx, hy]; exact HAG.out.1 k hki
        have hnn : ((x : Int) != (y : Int)) = false := by rw [bne_eq_false_iff_eq]; omega
        clear hx hy hxy
        go_wp2_with (first | (go_at_call 160; ((with_reducible refine HDA.out.mono ?_); rintro e w2 ⟨rfl, rfl⟩)) | (go_at_call 160; ((with_reducible refine HDB.out.mono ?_); rintro e w2 ⟨rfl, rfl⟩)))
        refine ⟨⟨k + 1, by omega, by simp⟩, by simp [intOf]; omega⟩
      · obtain rfl : i = k := by omega
        have hlt : y < x := by rw [hx, hy]; exact HAG.out.2
        have hnn : ((x : Int) != (y : Int)) = true := by rw [bne_iff_ne]; omega
        have hws : IntKind.i64.wrap ((x : Int) - (y : Int)) = (x : Int) - (y : Int) := IntWalk.i64_in _ (by omega)
        have HWS := Lib.hid hws
        clear hx hy hws
        go_wp2_with (first | (go_at_call 160; ((with_reducible refine HDA.out.mono ?_); rintro e w2 ⟨rfl, rfl⟩)) | (go_at_call 160; ((with_reducible refine HDB.out.mono ?_); rintro e w2 ⟨rfl, rfl⟩)))
        go_ret
        exact ⟨(x : Int) - y, by omega, by omega, rfl, HW.out⟩
end Go.Proofs.YtpigccnlembfdaaGreatDoor
