/- The walks of lightstrconv's FormatUint and FormatInt at base 10. Conditions: as each theorem states. -/
import Derived.Test.YtpigccnlembfdaaGreatDoorDecim
import Derived.WalkKit
import Derived.WalkSpells
import Derived.WalkLawsBesides
import Derived.Lib.Hide
import Derived.IntWalk
import Derived.WalkSmall
import Derived.Laws.IdiomStrings
import Derived.Laws.NewBlocks
import Derived.Laws.Entries
import Derived.Lib.AppendStr
namespace Go.Proofs.YtpigccnlembfdaaGreatDoor
open Go.RowKit

/-- The string of a list. -/
def strL (l : List UInt8) : ByteArray := ⟨l.toArray⟩
theorem strL_list (l : List UInt8) : (strL l).data.toList = l := by simp [strL]
theorem strL_size (l : List UInt8) : (strL l).size = l.length := by simp [strL, ByteArray.size]
/-- What a text leaves. -/
def TextIs (l : List UInt8) (w : World) (e : Ending) (w' : World) : Prop := e = .returned (.string (strL l)) ∧ Below w.heap.size w w'
/-- The digits that are still to be written, and those that are. -/
def DigRest (n m : Nat) (sfx : List UInt8) : Prop := (sfx = [] ∧ m = n) ∨ (sfx ≠ [] ∧ (if m = 0 then sfx else Lib.decDigits m ++ sfx) = Lib.decDigits n)
theorem DigRest.step {n m : Nat} {sfx : List UInt8} (h : DigRest n m sfx) (hm : sfx = [] ∨ m ≠ 0) : DigRest n (m / 10) (UInt8.ofNat (48 + m % 10) :: sfx) := by
  refine Or.inr ⟨by simp, ?_⟩
  rcases h with ⟨rfl, rfl⟩ | ⟨hne, h⟩
  · by_cases h10 : m < 10
    · rw [if_pos (by omega), dec_small h10, show m % 10 = m by omega]
    · rw [if_neg (by omega), dec_big h10]
  · have hm0 : m ≠ 0 := by rcases hm with h1 | h1; exact absurd h1 hne; exact h1
    rw [if_neg hm0] at h
    by_cases h10 : m < 10
    · rw [if_pos (by omega), show m % 10 = m by omega, ← h, dec_small h10]; rfl
    · rw [if_neg (by omega), ← h, dec_big h10]; simp
theorem DigRest.len {n m : Nat} {sfx : List UInt8} (h : DigRest n m sfx) : sfx.length ≤ (Lib.decDigits n).length := by
  rcases h with ⟨rfl, rfl⟩ | ⟨hne, h⟩
  · exact Nat.zero_le _
  · rw [← h]; split <;> simp
theorem DigRest.more {n m : Nat} {sfx : List UInt8} (h : DigRest n m sfx) (hm : sfx = [] ∨ m ≠ 0) : sfx.length < (Lib.decDigits n).length := by
  have := (h.step hm).len
  rw [List.length_cons] at this
  omega
theorem DigRest.done {n : Nat} {sfx : List UInt8} (h : DigRest n 0 sfx) (hne : sfx ≠ []) : sfx = Lib.decDigits n := by
  rcases h with ⟨h, _⟩ | ⟨_, h⟩
  · exact absurd h hne
  · rw [if_pos rfl] at h; exact h
theorem dec_length (k : Nat) : ∀ (n : Nat), n < 10 ^ (k + 1) → (Lib.decDigits n).length ≤ k + 1 := by
  induction k with
  | zero => intro n h; rw [dec_small (by simpa using h)]; simp
  | succ k ih =>
    intro n h
    by_cases h10 : n < 10
    · rw [dec_small h10]; simp
    · rw [dec_big h10, List.length_append, List.length_singleton]
      have := ih (n / 10) (by rw [Nat.pow_succ] at h; omega)
      omega
def encBy (l : List UInt8) : List Value := l.map fun b => Value.int .u8 b.toNat
/-- An index into a written string. -/
theorem wp_index_const {P : Program} {o : Oper} {a : Act} {W : World} {K : Act → World → Prop} {Q : Exit → Act → World → Prop} (S : ByteArray) (x : Operand) (t : TypeId) (i v : Nat) (k : IntKind) (ho : o.op = .index t (.const (.string S)) x) (ht : P.underlying t = some .string)
    (iv : Int) (hx : a.eval x = .int k iv) (hiv : iv = (i : Int)) (hlt : i < S.size) (hv : ∀ h : i < S.size, (S[i]'h).toNat = v) (h : K (a.put o.dst (.int .u8 (v : Int))) W) : o.wp P a W K Q := by
  subst hiv
  have hr := run_index_string (P := P) W t S k (i : Int) ht
  rw [dif_pos ⟨by omega, by omega⟩] at hr
  have hv' := hv hlt
  unfold Oper.wp execOp
  rw [ho]
  simp only [Act.eval] at hx ⊢
  rw [hx, Sem.run_bind, hr]
  simp only [Int.toNat_natCast] at hv' ⊢
  rw [hv']
  exact h
theorem forget_ops {P : Program} {ops : Array Oper} {Q : Exit → Act → World → Prop} {r : List Oper} {a : Act} {w : World} (h : ∀ o, wpList P o Q r a w) : wpList P ops Q r a w := h ops
/-- The array of digits, filled from i on. -/
def ArrU (w : World) (g i : Nat) (sfx : List UInt8) : Prop := ∃ cs : Array Value, w.heap[g]? = some (.cells cs 92 (0, 0)) ∧ cs.size = 64 ∧ cs.toList.drop i = encBy sfx ∧ i + sfx.length = 64 ∧ ∀ j, j < i → cs[j]? = some (.int .u8 0)
theorem ArrU.lt {w : World} {g i : Nat} {sfx : List UInt8} (h : ArrU w g i sfx) : g < w.heap.size := by
  obtain ⟨cs, h, _⟩ := h
  exact (Array.getElem?_eq_some_iff.1 h).1
theorem ArrU.frozen {w : World} {g i : Nat} {sfx : List UInt8} (h : ArrU w g i sfx) (j : Nat) : w.frozen? ⟨g, j, none⟩ = false := by
  obtain ⟨cs, h, _⟩ := h
  simp [World.frozen?, h]
theorem ArrU.cell {w : World} {g i : Nat} {sfx : List UInt8} (h : ArrU w g (i + 1) sfx) : w.cell? ⟨g, i, none⟩ = some (.int .u8 0) := by
  obtain ⟨cs, h, _, _, _, h0⟩ := h
  rw [cell_of_row w g i _ _ _ h]
  exact h0 i (Nat.lt_succ_self i)
theorem ArrU.set {w : World} {g i : Nat} {sfx : List UInt8} (h : ArrU w g (i + 1) sfx) (b : UInt8) : ArrU (w.setCell ⟨g, i, none⟩ (.int .u8 b.toNat)) g i (b :: sfx) := by
  obtain ⟨cs, h1, h2, h3, h4, h0⟩ := h
  have hi : i < cs.size := by omega
  refine ⟨cs.setIfInBounds i (.int .u8 b.toNat), ?_, by simpa using h2, ?_, by simp; omega, fun j hj => ?_⟩
  · simp [World.setCell, Array.getElem?_modify, h1]
  · rw [Array.toList_setIfInBounds, List.drop_set, if_neg (by omega), Nat.sub_self, List.drop_eq_getElem_cons (by simpa using hi), h3]
    rfl
  · rw [Array.getElem?_setIfInBounds_ne (by omega)]
    exact h0 j (by omega)
theorem ArrU.conv {w : World} {g i : Nat} {sfx : List UInt8} (h : ArrU w g i sfx) (n c : Nat) (hn : n = sfx.length) : (convert 72 9 (.slice (some ⟨g, i, none⟩) n c)).run Tryz.prog w = .ok (.string (strL sfx)) w := by
  subst hn
  obtain ⟨cs, h1, h2, h3, h4, h0⟩ := h
  refine run_convert_bytes_back w _ _ _ _ c sfx Tryz.underlying72 Tryz.underlying5 Tryz.underlying9 fun j hj => ?_
  rw [show (⟨g, i, none⟩ : Addr).add j = ⟨g, i + j, none⟩ by unfold Addr.add; split <;> simp_all]
  rw [cell_of_row w g (i + j) _ _ _ h1]
  have : cs.toList[i + j]? = (encBy sfx)[j]? := by rw [← h3, List.getElem?_drop]
  rw [← Array.getElem?_toList, this]
  simp [encBy, List.getElem?_eq_getElem hj]
theorem rep64 (j : Nat) (hj : j < 64) : (List.replicate 64 (Value.int .u8 0)).toArray[j]? = some (Value.int .u8 0) := by
  rw [List.getElem?_toArray, List.getElem?_replicate, if_pos hj]
set_option maxRecDepth 100000 in
set_option maxHeartbeats 1000000 in
theorem formatUint_any (w : World) (n : Nat) (hn : n < 18446744073709551616) :
    Calls Tryz.prog 97 #[.int .u64 n, .int .i64 10] w (TextIs (Lib.decDigits n) w) := by
  have hl20 : (Lib.decDigits n).length ≤ 20 := dec_length 19 n (by omega)
  go_enter Tryz.func97, Tryz.ntmps97
  go_wp2_with fail
  go_loopw [0, 6] (fun nv iv wr => ∃ (m i : Nat) (sfx : List UInt8), nv = .int .u64 m ∧ iv = .int .i64 i ∧ m < 18446744073709551616 ∧ i ≤ 64 ∧ Hid (DigRest n m sfx ∧ Below w.heap.size w wr ∧ ArrU wr w.heap.size i sfx)) (fun _ iv _ => (intOf iv).toNat)
  case atStart =>
    refine ⟨n, 64, [], rfl, rfl, hn, Nat.le_refl _, Lib.hid ⟨Or.inl ⟨rfl, rfl⟩, (Below.refl _ _).alloc (Nat.le_refl _) _, _, heap_alloc_new w _, rfl, rfl, rfl, fun j hj => ?_⟩⟩
    exact rep64 j hj
  case round =>
    obtain ⟨m, i, sfx, rfl, rfl, hm, hi, HF⟩ := hrel
    obtain ⟨hdr, hbel, harr⟩ := HF.out
    have hii : i + sfx.length = 64 := by obtain ⟨_, _, _, _, h, _⟩ := harr; exact h
    by_cases hgo : sfx = [] ∨ m ≠ 0
    · have hmore := hdr.more hgo
      obtain ⟨q, rfl⟩ : ∃ q, i = q + 1 := ⟨i - 1, by omega⟩
      obtain ⟨d, hd⟩ : ∃ d, d = m % 10 := ⟨_, rfl⟩
      have hdz : (m : Int) % 10 = (d : Int) := by omega
      have hd10 : d < 10 := by omega
      have hset := harr.set (UInt8.ofNat (48 + d))
      have hcell := harr.cell
      have hfro := harr.frozen q
      have hlt := harr.lt
      have hstep := hdr.step hgo
      rw [← hd] at hstep
      obtain ⟨bt, hbt⟩ : ∃ bt, bt = (UInt8.ofNat (48 + d)).toNat := ⟨_, rfl⟩
      have hbd : bt = 48 + d := hbt.trans (u8_of _ (by omega))
      rw [← hbt] at hset
      have HS := Lib.hid (And.intro hset hstep)
      have HB := Lib.hid hbel
      have hq1 : ((q + 1 : Nat) : Int) - 1 = (q : Int) := by omega
      have hcase : q = 63 ∨ (q ≠ 63 ∧ m ≠ 0) := by
        by_cases h : q = 63
        · exact Or.inl h
        · refine Or.inr ⟨h, ?_⟩
          rcases hgo with rfl | h2
          · simp at hii; omega
          · exact h2
      have HDD := Lib.hid (And.intro hbd (And.intro hd hbt))
      clear hset hstep hbel harr hdr hgo hmore hbt hbd hd
      have hk : ∀ h : d < (⟨#[48, 49, 50, 51, 52, 53, 54, 55, 56, 57, 97, 98, 99, 100, 101, 102, 103, 104, 105, 106, 107, 108, 109, 110, 111, 112, 113, 114, 115, 116, 117, 118, 119, 120, 121, 122]⟩ : ByteArray).size, ((⟨#[48, 49, 50, 51, 52, 53, 54, 55, 56, 57, 97, 98, 99, 100, 101, 102, 103, 104, 105, 106, 107, 108, 109, 110, 111, 112, 113, 114, 115, 116, 117, 118, 119, 120, 121, 122]⟩ : ByteArray)[d]'h).toNat = bt := fun h => by
        rw [HDD.out.1]
        have hds : d = 0 ∨ d = 1 ∨ d = 2 ∨ d = 3 ∨ d = 4 ∨ d = 5 ∨ d = 6 ∨ d = 7 ∨ d = 8 ∨ d = 9 := by omega
        rcases hds with rfl | rfl | rfl | rfl | rfl | rfl | rfl | rfl | rfl | rfl <;> rfl
      have HK := Lib.hid hk
      have hm10 : (m : Int) / 10 = ((m / 10 : Nat) : Int) := by omega
      have HM := Lib.hid hm10
      clear hk hm10
      rcases hcase with rfl | ⟨h63, hm0⟩
      · go_wp2_with fail
        rw [HK.out, HM.out]
        exact ⟨⟨m / 10, 63, _, rfl, rfl, by omega, by decide, Lib.hid ⟨HS.out.2, HB.out.setCell (by simp) _, HS.out.1⟩⟩, by decide⟩
      · have hq64 : ((q : Int) + 1 == 64) = false := by rw [beq_eq_false_iff_ne]; omega
        have hmp : (0 : Int) < (m : Int) := by omega
        go_wp2_with fail
        rw [HK.out, HM.out]
        exact ⟨⟨m / 10, q, _, rfl, rfl, by omega, by omega, Lib.hid ⟨HS.out.2, HB.out.setCell (by simp) _, HS.out.1⟩⟩, by simp [intOf]⟩
    · have hne : sfx ≠ [] := fun h => hgo (Or.inl h)
      have hm0 : m = 0 := Classical.byContradiction fun h => hgo (Or.inr h)
      subst hm0
      have hdone := hdr.done hne
      have hlen := List.length_pos_iff.2 hne
      have hcv := harr.conv (64 - i) (64 - i) (by omega)
      have hsl : ∀ W, (Instr.sliceAt 92 (.pointer (some ⟨w.heap.size, 0, none⟩)) (some (.int .i64 i)) none none).run Tryz.prog W = .ok (.slice (some ⟨w.heap.size, i, none⟩) (64 - i) (64 - i)) W := fun W => by
        have hal : Tryz.prog.arrayLen 92 = 64 := by kernel_rfl
        have hel : Tryz.prog.elem 92 = 5 := by kernel_rfl
        have hso := (Tryz.sizeOf5 : ∀ w, (sizeOf 5).run Tryz.prog w = _)
        rw [run_sliceAt_array_l W 92 ⟨w.heap.size, 0, none⟩ (by rw [hal, hel]; exact Tryz.underlying92) .i64 (i : Int) (by omega) (by rw [hal]; omega), hel, hal, hso]
        have hi2 : ¬ (64 = i) := by omega
        simp [slicedAt, Result.andThen, hi2, Addr.add]
        omega
      rw [hdone] at hcv
      have hi64 : ((i : Int) == 64) = false := by rw [beq_eq_false_iff_ne]; omega
      have HB := Lib.hid hbel
      clear hbel harr hdr hdone hlen hgo
      go_wp2_with fail
      go_ret
      exact ⟨rfl, HB.out⟩

set_option maxRecDepth 100000 in
theorem formatInt_any (w : World) (z : Int) (h1 : -9223372036854775808 ≤ z) (h2 : z ≤ 9223372036854775807) :
    Calls Tryz.prog 81 #[.int .i64 z, .int .i64 10] w (TextIs (Lib.itoa z) w) := by
  by_cases hz : z < 0
  · have HF := Lib.hid (formatUint_any w z.natAbs (by omega))
    have e1 : IntKind.u64.wrap (-IntKind.u64.wrap z) = ((z.natAbs : Nat) : Int) := by
      unfold IntKind.wrap
      simp [IntKind.bits, IntKind.signed]
      omega
    have E1 := Lib.hid e1
    have HI : Hid (Lib.itoa z = 45 :: Lib.decDigits z.natAbs) := Lib.hid (by unfold Lib.itoa; rw [if_pos hz])
    clear e1
    go_enter Tryz.func81, Tryz.ntmps81
    go_wp2_with fail
    rw [E1.out]
    refine HF.out.mono ?_
    rintro e w2 ⟨rfl, hb2⟩
    have hsz : (strL (Lib.decDigits z.natAbs)).size ≤ 20 := by rw [strL_size]; exact dec_length 19 _ (by omega)
    go_wp2_with fail
    go_ret
    refine ⟨?_, hb2⟩
    rw [HI.out]
    show Ending.returned (Value.string ((⟨#[45]⟩ : ByteArray) ++ strL (Lib.decDigits z.natAbs))) = Ending.returned (Value.string (strL (45 :: Lib.decDigits z.natAbs)))
    congr 2
  · have HF := Lib.hid (formatUint_any w z.toNat (by omega))
    have hzt : (z.toNat : Int) = z := by omega
    rw [hzt] at HF
    have HI : Hid (Lib.itoa z = Lib.decDigits z.toNat) := Lib.hid (by unfold Lib.itoa; rw [if_neg hz])
    clear hzt
    have hz0 : 0 ≤ z := by omega
    go_enter Tryz.func81, Tryz.ntmps81
    have E2 : Hid (IntKind.u64.wrap z = z) := Lib.hid (IntWalk.u64_in _ (by omega))
    go_wp2_with fail
    first | rw [E2.out] | skip
    refine HF.out.mono ?_
    rintro e w2 ⟨rfl, hb2⟩
    go_wp2_with fail
    go_ret
    exact ⟨by rw [HI.out]; rfl, hb2⟩
end Go.Proofs.YtpigccnlembfdaaGreatDoor
