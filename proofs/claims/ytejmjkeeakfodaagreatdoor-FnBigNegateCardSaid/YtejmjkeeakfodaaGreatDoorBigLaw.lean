/- The whole walk of FnBigNegate: it returns true at every text. Conditions: what ParseInt and Itoa give. -/
import Derived.Test.YtejmjkeeakfodaaGreatDoorBigDoor
namespace Go.Proofs.YtejmjkeeakfodaaGreatDoor
open Go.RowKit

set_option maxRecDepth 100000 in
set_option maxHeartbeats 2000000 in
theorem bigLaw_any {Tabs : World → Prop} (hP : ParseSaid Tabs) (hI : ItoaSaid Tabs) (s : ByteArray) (w : World) (hs : s.size ≤ 9223372036854775807) (hTk : ∀ w', Below w.heap.size w w' → Tabs w') :
    Calls Tryz.prog 3 #[.string s] w (SaysB w (.bool true)) := by
  have HT := Lib.hid hTk
  have HB1 := Lib.hid (show Below w.heap.size w (w.alloc (.cells #[.string s] 9)) from (Below.refl _ _).alloc (Nat.le_refl _) _)
  have HW := Lib.hid (wide_any (w.alloc (.cells #[.string s] 9)) s w.heap.size 1 (by rw [cell_of_row _ w.heap.size 0 _ _ _ (heap_alloc_new w _)]; rfl))
  clear hTk
  go_enter Tryz.func3, Tryz.ntmps3
  by_cases hbig : (2147483647 : Int) < (s.size : Int)
  · go_wp2_with fail
    go_ret
    exact ⟨rfl, Below.refl _ _⟩
  go_wp2_with fail
  refine HW.out.mono ?_
  rintro e w2 ⟨b, rfl, hb2, hwide⟩
  have HB2 := Lib.hid (HB1.out.trans (hb2.mono HB1.out.size))
  have HWI := Lib.hid hwide
  clear hb2 hwide HB1 HW
  cases b
  · go_wp2_with fail
    go_ret
    exact ⟨rfl, HB2.out⟩
  obtain ⟨h400, z, hz⟩ := HWI.out (by first | rfl | trivial)
  obtain rfl : s = str (Lib.itoa z) := by rw [← hz, str_of]
  have hlen : (Lib.itoa z).length ≤ 400 := by rw [str_size] at h400; exact h400
  clear hz HWI
  have HNEG := Lib.hid (fun w' => wholeNeg_any w' z (by omega))
  have HBN := Lib.hid (fun (w' : World) (hb : Below w.heap.size w w') => bigNegate_any hP hI w' (fun w'' h => HT.out w'' (hb.trans (h.mono hb.size))) z hlen)
  have HBA := Lib.hid (fun (w' : World) (hb : Below w.heap.size w w') => bigAbs_any hP hI w' (fun w'' h => HT.out w'' (hb.trans (h.mono hb.size))) z hlen)
  have HEX := Lib.hid exact_any
  by_cases hneg : z < 0
  · have hC := wholeCmp_neg w2 (str (Lib.itoa z)) (by rw [str_list, itoa_lt hneg]; rfl)
    have HC := Lib.hid hC
    have HA : Hid ((z.natAbs : Int) = -z) := Lib.hid (by omega)
    rw [HA.out] at HBA
    clear hC hneg hlen h400 HA
    go_wp2_with fail
    refine HC.out.mono ?_
    rintro e w3 ⟨rfl, rfl⟩
    go_wp2_with fail
    refine (HNEG.out _).mono ?_
    rintro e w3 ⟨rfl, rfl⟩
    go_wp2_with fail
    refine (HBN.out _ HB2.out).mono ?_
    rintro e w4 ⟨rfl, hb4⟩
    have HB4 := Lib.hid (HB2.out.trans (hb4.mono HB2.out.size))
    clear hb4
    go_wp2_with fail
    refine (HNEG.out _).mono ?_
    rintro e w5 ⟨rfl, rfl⟩
    go_wp2_with fail
    refine (HEX.out _ _).mono ?_
    rintro e w5 ⟨rfl, hb5⟩
    have HB5 := Lib.hid (HB4.out.trans (hb5.mono HB4.out.size))
    clear hb5
    go_wp2_with fail
    refine (HBA.out _ HB5.out).mono ?_
    rintro e w6 ⟨rfl, hb6⟩
    have HB6 := Lib.hid (HB5.out.trans (hb6.mono HB5.out.size))
    clear hb6
    go_wp2_with fail
    refine (HEX.out _ _).mono ?_
    rintro e w7 ⟨rfl, hb7⟩
    have HB7 := Lib.hid (HB6.out.trans (hb7.mono HB6.out.size))
    clear hb7
    go_wp2_with fail
    go_ret
    exact ⟨rfl, HB7.out⟩
  · have HA : Hid ((z.natAbs : Int) = z) := Lib.hid (by omega)
    have hit := itoa_ge hneg
    have hC := wholeCmp_pos w2 z.toNat (by rw [← hit]; omega)
    rw [← hit] at hC
    have HC := Lib.hid hC
    rw [HA.out] at HBA
    clear hC hneg hlen h400 HA hit
    go_wp2_with fail
    refine HC.out.mono ?_
    rintro e w3 ⟨m, hm, rfl, rfl⟩
    have hm2 : ¬ m < 0 := by omega
    go_wp2_with fail
    refine (HBN.out _ HB2.out).mono ?_
    rintro e w4 ⟨rfl, hb4⟩
    have HB4 := Lib.hid (HB2.out.trans (hb4.mono HB2.out.size))
    clear hb4
    go_wp2_with fail
    refine (HNEG.out _).mono ?_
    rintro e w5 ⟨rfl, rfl⟩
    go_wp2_with fail
    refine (HEX.out _ _).mono ?_
    rintro e w5 ⟨rfl, hb5⟩
    have HB5 := Lib.hid (HB4.out.trans (hb5.mono HB4.out.size))
    clear hb5
    go_wp2_with fail
    refine (HBA.out _ HB5.out).mono ?_
    rintro e w6 ⟨rfl, hb6⟩
    have HB6 := Lib.hid (HB5.out.trans (hb6.mono HB5.out.size))
    clear hb6
    go_wp2_with fail
    refine (HEX.out _ _).mono ?_
    rintro e w7 ⟨rfl, hb7⟩
    have HB7 := Lib.hid (HB6.out.trans (hb7.mono HB6.out.size))
    clear hb7
    go_wp2_with fail
    go_ret
    exact ⟨rfl, HB7.out⟩
end Go.Proofs.YtejmjkeeakfodaaGreatDoor
