/- The walks of the escaper of @sh: each byte of a string is replaced by what stands for it. Conditions: the string has at most a million bytes. -/
import Derived.Test.YtpigccnlembfdaaGreatDoorShell
import Derived.Test.YtpigccnlembfdaaGreatDoorWant
import Derived.Lib.AppendStr
import Derived.Lib.SlBytesRow
import Derived.Lib.BufferRead
import Derived.Laws.IdiomStrings
import Derived.Deep.RegionHeld3
import Derived.Deep.DrawnRows
namespace Go.Proofs.YtpigccnlembfdaaGreatDoor
open Go.RowKit
attribute [local go_sem ↓] Go.wp_at_zero Go.wp_at_succ

/-- Bytes as cells. -/
def encB (l : List UInt8) : List Value := l.map fun b => Value.int .u8 b.toNat
theorem strCells_eq (s : ByteArray) : Lib.strCells s = encB s.data.toList := rfl
theorem encB_append (a b : List UInt8) : encB (a ++ b) = encB a ++ encB b := by simp [encB]
theorem esc_snoc (a : List UInt8) (c : UInt8) : esc (a ++ [c]) = esc a ++ esc1 c := by simp [esc]

theorem info_u8 : (Tryz.prog.info? 5).map (fun i => (i.zero, i.size, i.bytes)) = some (some (.int .u8 0), 1, 1) := by kernel_rfl

/-- What the four strings of the escaper lie in. -/
def Escs (w : World) (bk : Nat) : Prop := w.heap[bk]? = some (.cells #[.string ⟨#[39]⟩, .string ⟨#[39, 92, 39, 39]⟩, .string ⟨#[0]⟩, .string ⟨#[92, 48]⟩] 9 (0, 0))
theorem Escs.lt {w : World} {bk : Nat} (h : Escs w bk) : bk < w.heap.size := (Array.getElem?_eq_some_iff.1 h).1
theorem Escs.cell {w : World} {bk : Nat} (h : Escs w bk) (i : Nat) : w.cell? ⟨bk, i, none⟩ = (#[.string ⟨#[39]⟩, .string ⟨#[39, 92, 39, 39]⟩, .string ⟨#[0]⟩, .string ⟨#[92, 48]⟩] : Array Value)[i]? := cell_of_row w bk i _ _ _ h
theorem Escs.below {w w' : World} {bk : Nat} (h : Escs w bk) (hb : Below w.heap.size w w') : Escs w' bk := (hb.block bk h.lt).trans h

theorem row_step {w5 : World} {base : Nat} {v' : Value} {q : Nat} {l bs : List UInt8} {c : UInt8} (hc : l[q]? = some c) (he : esc1 c = bs) {m : Nat} (hm : m = bs.length)
    (h : w5.ownsRow base 5 1 v' ((esc (l.take q)).length + m) (encB (esc (l.take q)) ++ encB bs)) : w5.ownsRow base 5 1 v' (esc (l.take (q + 1))).length (encB (esc (l.take (q + 1)))) := by
  have e : l.take (q + 1) = l.take q ++ [c] := by
    obtain ⟨hlt, rfl⟩ := List.getElem?_eq_some_iff.1 hc
    rw [List.take_add_one, List.getElem?_eq_getElem hlt]; rfl
  rw [e, esc_snoc, he, encB_append, List.length_append, ← hm]
  exact h

/-- A row of bytes as a string. -/
theorem conv_own {P : Program} {w : World} {base : Nat} {src dst e : TypeId} {v : Value} {l : List UInt8} (hs : P.underlying src = some (.slice e)) (he : P.underlying e = some (.int .u8)) (hd : P.underlying dst = some .string) (h : w.ownsRow base e 1 v l.length (encB l)) :
    (convert src dst v).run P w = .ok (.string ⟨l.toArray⟩) w := by
  rcases h.2 with ⟨rfl, h0⟩ | ⟨g, cap, cur, rfl, hb, hg, r⟩
  · obtain rfl : l = [] := List.length_eq_zero_iff.1 h0
    exact Lib.run_convert_nil_bytes w src dst e 0 hs he hd
  · refine run_convert_bytes_back w src dst e _ cap l hs he hd fun j hj => ?_
    exact h.cells rfl _ _ (by simp [encB, List.getElem?_eq_getElem hj])

set_option maxRecDepth 100000 in
set_option maxHeartbeats 2000000 in
theorem replace_any (w : World) (bk : Nat) (s : ByteArray) (hs : s.size ≤ 1000000) (hr : Escs w bk) :
    Calls Tryz.prog 63 #[.slice (some ⟨bk, 0, none⟩) 4 4, .string s] w fun e w' => e = .returned (.string ⟨(esc s.data.toList).toArray⟩) ∧ Below w.heap.size w w' := by
  obtain ⟨i5, hi, he⟩ := Option.map_eq_some_iff.1 info_u8
  have hz0 : i5.zero = some (.int .u8 0) := congrArg (·.1) he
  have hz1 : i5.size = 1 := congrArg (·.2.1) he
  have hz2 : i5.bytes = 1 := congrArg (·.2.2) he
  have HI := Lib.hid (And.intro hi (And.intro hz0 (And.intro hz1 hz2)))
  have HR := Lib.hid hr
  have HS := Lib.hid hs
  have hlen : s.size = s.data.toList.length := by simp
  have HL := Lib.hid hlen
  clear hi he hz0 hz1 hz2 hr hs hlen
  go_enter Tryz.func63, Tryz.ntmps63
  go_wp2_with fail
  go_loopw [5, 6] (fun o i wr => ∃ (q : Nat) (v : Value), v = o ∧ q ≤ s.size ∧ i = .int .i64 q ∧ Below w.heap.size w wr ∧ wr.ownsRow w.heap.size 5 1 v (esc (s.data.toList.take q)).length (encB (esc (s.data.toList.take q)))) (fun _ i _ => s.size - (intOf i).toNat)
  case atStart => exact ⟨0, _, rfl, Nat.zero_le _, rfl, Below.refl _ _, World.ownsRow_nil _ _ _ _⟩
  case round =>
    obtain ⟨q, v, rfl, hq, rfl, hb, hown⟩ := hrel
    by_cases hlt : q < s.size
    · obtain ⟨c, hc⟩ : ∃ c, s.data.toList[q]? = some c := ⟨_, List.getElem?_eq_getElem (by rw [← HL.out]; exact hlt)⟩
      have HC := Lib.hid hc
      have hel : (esc (s.data.toList.take q)).length ≤ 4000000 := by have h1 := esc_length (s.data.toList.take q); have h2 := HS.out; rw [List.length_take] at h1; omega
      have HEL := Lib.hid hel
      have hq6 : q ≤ 1000000 := by have h2 := HS.out; omega
      have HO := Lib.hid hown
      have HB := Lib.hid hb
      clear hown hb hc hel
      go_wp2_with fail
      go_loopw [7] (fun k wk => Below w.heap.size w wk ∧ wk.ownsRow w.heap.size 5 1 v (esc (s.data.toList.take q)).length (encB (esc (s.data.toList.take q))) ∧
        (k = .int .i64 0 ∨ (k = .int .i64 2 ∧ c ≠ 39) ∨ (k = .int .i64 4 ∧ c ≠ 39 ∧ c ≠ 0))) (fun k _ => 6 - (intOf k).toNat)
      case atStart => exact ⟨HB.out, HO.out, Or.inl rfl⟩
      case round =>
        obtain ⟨hb, hown, hk⟩ := hrel
        have hE := HR.out.below (hb.mono (Nat.le_refl _))
        have e0 := hE.cell 0
        have e1 := hE.cell 1
        have e2 := hE.cell 2
        have e3 := hE.cell 3
        simp at e0 e1 e2 e3
        have HO := Lib.hid hown
        have HB := Lib.hid hb
        clear hown hb hE
        have n39 : (({ data := #[39] } : ByteArray)[0]'(by decide)) = 39 := rfl
        have n0 : (({ data := #[0] } : ByteArray)[0]'(by decide)) = 0 := rfl
        have hsq : s[q]'hlt = c := by
          have := HC.out
          rw [List.getElem?_eq_getElem (by rw [← HL.out]; exact hlt)] at this
          have := Option.some.inj this
          rw [← this]; simp; rfl
        obtain ⟨hi, hz0, hz1, hz2⟩ := HI.out
        rcases hk with rfl | ⟨rfl, h1⟩ | ⟨rfl, h1, h2⟩
        · by_cases h39 : c = 39
          · subst h39
            go_wp2_with fail
            go_region
            go_wp2_with (at_builtin; refine Lib.wpList_append_own_string _ rfl _ _ _ _ rfl w.heap.size 5 i5 Tryz.underlying72 Tryz.underlying9 hi hz0 hz1 hz2 v _ _ rfl HO.out ⟨#[39, 92, 39, 39]⟩ rfl (by have := HEL.out; have e : (⟨#[39, 92, 39, 39]⟩ : ByteArray).size = 4 := rfl; rw [e]; unfold maxLen; omega) (by have := HEL.out; have e : (⟨#[39, 92, 39, 39]⟩ : ByteArray).size = 4 := rfl; rw [e]; omega) HB.out.size ?_; intro v' w5 hown5 hg5 hnil5; have HO5 := Lib.hid hown5; have HB5 := Lib.hid (HB.out.drew.grown hg5 HB.out.size (fun k hk => (HO.out.lt k hk).1)); clear hown5 hg5 hnil5)
            go_roundw
            case rel => exact ⟨q + 1, v', rfl, by omega, by go_num, HB5.out, row_step HC.out (by decide) rfl HO5.out⟩
            case measure => simp [intOf]; omega
          · have hne : ((39 : Int) != (c.toNat : Int)) = true := by
              simp only [bne_iff_ne, ne_eq]
              intro e
              apply h39
              apply UInt8.toNat.inj
              have : c.toNat = 39 := by omega
              rw [this]; rfl
            have H39 := Lib.hid h39
            clear h39
            go_wp2_with fail
            go_region
            go_wp2_with fail
            go_roundw
            case rel => exact ⟨HB.out.drew, HO.out, Or.inr (Or.inl ⟨rfl, H39.out⟩)⟩
            case measure => simp [intOf]
        · by_cases h00 : c = 0
          · subst h00
            clear h1
            go_wp2_with fail
            go_region
            go_wp2_with (at_builtin; refine Lib.wpList_append_own_string _ rfl _ _ _ _ rfl w.heap.size 5 i5 Tryz.underlying72 Tryz.underlying9 hi hz0 hz1 hz2 v _ _ rfl HO.out ⟨#[92, 48]⟩ rfl (by have := HEL.out; have e : (⟨#[92, 48]⟩ : ByteArray).size = 2 := rfl; rw [e]; unfold maxLen; omega) (by have := HEL.out; have e : (⟨#[92, 48]⟩ : ByteArray).size = 2 := rfl; rw [e]; omega) HB.out.size ?_; intro v' w5 hown5 hg5 hnil5; have HO5 := Lib.hid hown5; have HB5 := Lib.hid (HB.out.drew.grown hg5 HB.out.size (fun k hk => (HO.out.lt k hk).1)); clear hown5 hg5 hnil5)
            go_roundw
            case rel => exact ⟨q + 1, v', rfl, by omega, by go_num, HB5.out, row_step HC.out (by decide) rfl HO5.out⟩
            case measure => simp [intOf]; omega
          · have hne : ((0 : Int) != (c.toNat : Int)) = true := by
              simp only [bne_iff_ne, ne_eq]
              intro e
              apply h00
              apply UInt8.toNat.inj
              have : c.toNat = 0 := by omega
              rw [this]; rfl
            have H39 := Lib.hid (And.intro h1 h00)
            clear h00 h1
            go_wp2_with fail
            go_region
            go_wp2_with fail
            go_roundw
            case rel => exact ⟨HB.out.drew, HO.out, Or.inr (Or.inr ⟨rfl, H39.out⟩)⟩
            case measure => simp [intOf]
        · have H12 := Lib.hid (And.intro h1 h2)
          clear h1 h2
          go_wp2_with fail
          go_region
          go_wp2_with (at_builtin; refine wpList_append_own _ rfl _ _ _ rfl w.heap.size 5 i5 (.int .u8 0) 1 1 Tryz.underlying72 hi hz0 hz1 hz2 rfl (by decide) v _ _ rfl (HO.out.alloc _) _ 1 1 [.int .u8 c.toNat] rfl rfl (World.news_of_block (cs := #[.int .u8 c.toNat]) (heap_alloc_new _ _)) (by simp [Value.oneCell']) (by have := HEL.out; unfold maxLen; omega) (by have := HEL.out; omega) (by have := HB.out.size; simp; omega) ?_; intro v' w5 hown5 hg5 hnil5; have HO5 := Lib.hid hown5; have HB5 := Lib.hid ((HB.out.drew.alloc HB.out.size _).grown hg5 (by have := HB.out.size; simp; omega) (fun k hk => (HO.out.lt k hk).1)); clear hown5 hg5 hnil5)
          go_roundw
          case rel => exact ⟨q + 1, v', rfl, by omega, by go_num, HB5.out, row_step (bs := [c]) HC.out (by unfold esc1; rw [if_neg H12.out.1, if_neg H12.out.2]) rfl HO5.out⟩
          case measure => simp [intOf]; omega
    · have hqs : q = s.size := by omega
      have hconv := conv_own Tryz.underlying72 Tryz.underlying5 Tryz.underlying9 hown
      rw [hqs, HL.out, List.take_length] at hconv
      have HB := Lib.hid hb
      clear hown hb
      go_wp2_with fail
      go_ret
      exact ⟨rfl, HB.out⟩
end Go.Proofs.YtpigccnlembfdaaGreatDoor
