/- The walks of spec.Str, spec.Nul at a string, and zzFits2's bound. Conditions: as each theorem states. -/
import Derived.Test.YtpigccnlembfdaaGreatDoorFmt
namespace Go.Proofs.YtpigccnlembfdaaGreatDoor
open Go.RowKit

theorem fits2_len (w : World) (B : Nat) (A : Option Addr) (n c : Nat) (ks : List ByteArray) (h : Reads w B A (ks.map .string)) (hn : n = ks.length) (hm : n ≤ 140737488351232) :
    Calls Tryz.prog 13 #[.slice A n c] w fun e w' => w' = w ∧ ∃ b, e = .returned (.bool b) ∧ (b = true → n ≤ 2147483647) := by
  by_cases hb : (2147483647 : Int) < (n : Int)
  · have hd : decide ((2147483647 : Int) < (n : Int)) = true := by simpa using hb
    clear h hn
    go_enter Tryz.func13, Tryz.ntmps13
    go_wp2
    go_ret
    exact ⟨rfl, false, rfl, fun h => by cases h⟩
  · exact (fits2_any w B A n c ks h hn hm).mono fun e w' ⟨b, he, hw⟩ => ⟨hw.symm, b, he, fun _ => by omega⟩

theorem str_mk (w : World) (s : ByteArray) :
    Calls Tryz.prog 16 #[.string s] w (Same0 w (.agg #[.int .i64 4, .int .i64 0, .string s, .slice none 0 0, .slice none 0 0, .slice none 0 0])) := by
  go_enter Tryz.func16, Tryz.ntmps16
  go_wp2_with fail
  exact bodyPost_ret (v := .agg #[.int .i64 4, .int .i64 0, .string s, .slice none 0 0, .slice none 0 0, .slice none 0 0]) (by simp [results, Tryz.results16, go_sem]) rfl ⟨rfl, below1 _ _⟩

/-- What Nul says: if no, no byte is 0. -/
def NulPost (s : ByteArray) (w : World) (e : Ending) (w' : World) : Prop := ∃ b, e = .returned (.bool b) ∧ Below w.heap.size w w' ∧ (b = false → ∀ c ∈ s.data.toList, c ≠ 0)

set_option maxRecDepth 100000 in
set_option maxHeartbeats 1000000 in
theorem nul_any (w : World) (s : ByteArray) (hs : s.size ≤ 1000000) :
    Calls Tryz.prog 15 #[.agg #[.int .i64 4, .int .i64 0, .string s, .slice none 0 0, .slice none 0 0, .slice none 0 0]] w
      (NulPost s w) := by
  have hlen : s.size = s.data.toList.length := by simp
  have HL := Lib.hid hlen
  clear hlen
  have hR : w.heap.size < (w.alloc (.cells #[.int .i64 4, .int .i64 0, .string s, .slice none 0 0, .slice none 0 0, .slice none 0 0] 26)).heap.size := by simp
  have hcell : ∀ i, (w.alloc (.cells #[.int .i64 4, .int .i64 0, .string s, .slice none 0 0, .slice none 0 0, .slice none 0 0] 26)).cell? ⟨w.heap.size, i, none⟩ = (#[.int .i64 4, .int .i64 0, .string s, .slice none 0 0, .slice none 0 0, .slice none 0 0] : Array Value)[i]? := fun i => cell_of_row _ w.heap.size i _ _ _ (heap_alloc_new w _)
  have HB := Lib.hid (below1 w (.cells #[.int .i64 4, .int .i64 0, .string s, .slice none 0 0, .slice none 0 0, .slice none 0 0] 26))
  have HC := Lib.hid hcell
  clear hcell hR
  go_enter Tryz.func15, Tryz.ntmps15
  go_wp2_with fail
  generalize w.alloc (.cells #[.int .i64 4, .int .i64 0, .string s, .slice none 0 0, .slice none 0 0, .slice none 0 0] 26) = w1 at *
  have r2 := HC.out 2
  have r3 := HC.out 3
  simp at r2 r3
  go_loop [3] (fun i => ∃ q : Nat, q ≤ s.size ∧ i = .int .i64 q ∧ Hid (∀ c ∈ s.data.toList.take q, c ≠ 0)) (fun i => s.size - (intOf i).toNat)
  case atStart => exact ⟨0, Nat.zero_le _, rfl, Lib.hid (fun c hc => by simp at hc)⟩
  case round =>
    obtain ⟨q, hq, rfl, HQ⟩ := hrel
    by_cases hlt : q < s.size
    · obtain ⟨c, hc⟩ : ∃ c, s.data.toList[q]? = some c := ⟨_, List.getElem?_eq_getElem (by rw [← HL.out]; exact hlt)⟩
      have hsq : s[q]'hlt = c := by
        rw [List.getElem?_eq_getElem (by rw [← HL.out]; exact hlt)] at hc
        have := Option.some.inj hc
        rw [← this]; simp; rfl
      have HCC := Lib.hid hc
      clear hc
      by_cases h0 : c = 0
      · subst h0
        go_wp2_with fail
        go_ret
        exact ⟨true, rfl, HB.out, fun h => by cases h⟩
      · have hne : ((c.toNat : Int) == 0) = false := by
          simp only [beq_eq_false_iff_ne, ne_eq]
          intro e
          apply h0
          apply UInt8.toNat.inj
          have : c.toNat = 0 := by omega
          rw [this]; rfl
        have H0 := Lib.hid h0
        clear h0
        go_wp2_with fail
        go_round
        case rel =>
          refine ⟨q + 1, by omega, by go_num, Lib.hid fun x hx => ?_⟩
          have e : s.data.toList.take (q + 1) = s.data.toList.take q ++ [c] := by
            obtain ⟨hl, rfl⟩ := List.getElem?_eq_some_iff.1 HCC.out
            rw [List.take_add_one, List.getElem?_eq_getElem hl]; rfl
          rw [e] at hx
          rcases List.mem_append.1 hx with hx | hx
          · exact HQ.out x hx
          · rw [List.mem_singleton.1 hx]; exact H0.out
        case measure => simp [intOf]; omega
    · have hqs : q = s.size := by omega
      have HE := Lib.hid hqs
      clear hqs
      go_wp2_with fail
      go_loop [4] (fun i => i = .int .i64 0) (fun _ => 0)
      case atStart => rfl
      case round =>
        subst hrel
        go_wp2_with fail
        go_ret
        refine ⟨false, rfl, HB.out, fun _ => ?_⟩
        have := HQ.out
        rw [HE.out, HL.out, List.take_length] at this
        exact this
end Go.Proofs.YtpigccnlembfdaaGreatDoor
