/- The walks of the encoder at null, a bool, an int, a half. Conditions: as each theorem states. -/
import Derived.Test.YtpigccnlembfdaaGreatDoorEnc
namespace Go.Proofs.YtpigccnlembfdaaGreatDoor
open Go.RowKit Go.Shelf

section
open Ieee Datum
theorem order_of {x y : Nat} {s t : Bool} {m n : Nat} {i j : Int} (hx : double.read x = .number s m i) (hy : double.read y = .number t n j) : double.order x y = some (compare (signed s m (i - min i j).toNat) (signed t n (j - min i j).toNat)) := by
  unfold Format.order; rw [hx, hy]; rfl
theorem cmp_lt {a b : Int} (h : a < b) : compare a b = .lt := by
  unfold compare instOrdInt; simp only [compareOfLessAndEq, if_pos h]
theorem cmp_gt {a b : Int} (h : b < a) : compare a b = .gt := by
  unfold compare instOrdInt; simp only [compareOfLessAndEq]; rw [if_neg (by omega), if_neg (by omega)]
theorem cmp_eq {a : Int} : compare a a = .eq := by
  unfold compare instOrdInt; simp [compareOfLessAndEq]
theorem shl_big (m k : Nat) (hm : 4503599627370496 ≤ m) (hk : 1 ≤ k) : 9007199254740992 ≤ m <<< k := by
  rw [Nat.shiftLeft_eq]
  have : 2 ^ 1 ≤ 2 ^ k := Nat.pow_le_pow_right (by decide) hk
  have := Nat.mul_le_mul hm this
  omega
structure HalfF (b : Nat) (neg : Bool) (s : Nat) (i : Int) : Prop where
  read : double.read b = .number neg s i
  s1 : 4503599627370496 ≤ s
  s2 : s < 9007199254740992
  i0 : -53 ≤ i
  i1 : i ≤ -1
variable {b s : Nat} {neg : Bool} {i : Int}
theorem HalfF.self (h : HalfF b neg s i) : FloatKind.f64.format.order b b = some .eq := (order_of h.read h.read).trans (by rw [cmp_eq])
theorem signed_le (neg : Bool) (m : Nat) : -(m : Int) ≤ signed neg m 0 ∧ signed neg m 0 ≤ m := by
  unfold signed; cases neg <;> simp <;> omega
theorem HalfF.low (h : HalfF b neg s i) : FloatKind.f64.format.order b 18442240474082181119 = some .gt := by
  refine (order_of h.read (show double.read 18442240474082181119 = .number true 9007199254740991 971 by decide)).trans (congrArg some ?_)
  have h1 := h.i1
  have h2 := h.i0
  rw [show min i 971 = i by omega, show (i - i).toNat = 0 by omega]
  have h3 := shl_big 9007199254740991 (971 - i).toNat (by decide) (by omega)
  have h4 := signed_le neg s
  have h5 := h.s2
  refine cmp_gt ?_
  show -((9007199254740991 <<< (971 - i).toNat : Nat) : Int) < _
  omega
theorem HalfF.high (h : HalfF b neg s i) : FloatKind.f64.format.order b 9218868437227405311 = some .lt := by
  refine (order_of h.read (show double.read 9218868437227405311 = .number false 9007199254740991 971 by decide)).trans (congrArg some ?_)
  have h1 := h.i1
  have h2 := h.i0
  rw [show min i 971 = i by omega, show (i - i).toNat = 0 by omega]
  have h3 := shl_big 9007199254740991 (971 - i).toNat (by decide) (by omega)
  have h4 := signed_le neg s
  have h5 := h.s2
  refine cmp_lt ?_
  show _ < ((9007199254740991 <<< (971 - i).toNat : Nat) : Int)
  omega
theorem HalfF.zero (h : HalfF b false s i) : FloatKind.f64.format.order b 0 = some .gt := by
  refine (order_of h.read (show double.read 0 = .number false 0 (-1074) by decide)).trans (congrArg some ?_)
  have h1 := h.i1
  have h2 := h.i0
  rw [show min i (-1074) = -1074 by omega]
  have h3 := shl_big s (i - -1074).toNat h.s1 (by omega)
  refine cmp_gt ?_
  show ((0 <<< ((-1074 : Int) - -1074).toNat : Nat) : Int) < ((s <<< (i - -1074).toNat : Nat) : Int)
  simp only [Nat.zero_shiftLeft]
  omega
theorem HalfF.small (h : HalfF b false s i) : FloatKind.f64.format.order b 4517329193108106637 = some .gt := by
  refine (order_of h.read (show double.read 4517329193108106637 = .number false 4722366482869645 (-72) by decide)).trans (congrArg some ?_)
  have h1 := h.i1
  have h2 := h.i0
  rw [show min i (-72) = -72 by omega]
  have h3 := shl_big s (i - -72).toNat h.s1 (by omega)
  refine cmp_gt ?_
  show ((4722366482869645 <<< ((-72 : Int) - -72).toNat : Nat) : Int) < ((s <<< (i - -72).toNat : Nat) : Int)
  rw [show ((-72 : Int) - -72).toNat = 0 by decide, Nat.shiftLeft_zero]
  omega
theorem HalfF.great (h : HalfF b false s i) : FloatKind.f64.format.order b 4921056587992461136 = some .lt := by
  refine (order_of h.read (show double.read 4921056587992461136 = .number false 7629394531250000 17 by decide)).trans (congrArg some ?_)
  have h1 := h.i1
  have h2 := h.i0
  have h5 := h.s2
  rw [show min i 17 = i by omega, show (i - i).toNat = 0 by omega]
  have h3 := shl_big 7629394531250000 (17 - i).toNat (by decide) (by omega)
  refine cmp_lt ?_
  show ((s <<< 0 : Nat) : Int) < ((7629394531250000 <<< (17 - i).toNat : Nat) : Int)
  rw [Nat.shiftLeft_zero]
  omega
theorem HalfF.max (h : HalfF b neg s i) (w : World) (P : Program) : (Builtin.max_ #[65, 65] 65 #[.float .f64 b, .float .f64 18442240474082181119]).run P w = .ok (.float .f64 b) w := by
  simp [Builtin.max_, Builtin.max2, h.low]
theorem HalfF.min (h : HalfF b neg s i) (w : World) (P : Program) : (Builtin.min_ #[65, 65] 65 #[.float .f64 b, .float .f64 9218868437227405311]).run P w = .ok (.float .f64 b) w := by
  simp [Builtin.min_, Builtin.min2, h.high]
end
/-- What encode leaves. -/
def EncPost (B b : Nat) (l : List UInt8) (w : World) (e : Ending) (w' : World) : Prop := e = .returned (.tuple #[]) ∧ Lib.IsBuilder 146 5 B b (Lib.byteCells l) w' ∧ Below B w w'
/-- A half's bits: its word, and how it reads. -/
structure HalfW (b s E mant : Nat) : Prop where
  word : Word64 b s E mant
  half : HalfF b (decide (s = 1)) mant ((E : Int) - 1075)
  abs : HalfF (b - s * 9223372036854775808) false mant ((E : Int) - 1075)
theorem fbits_eq (neg : Bool) (s : Nat) (i : Int) : fbits neg s i = neg.toNat * 9223372036854775808 + ((i + 1074).toNat * 4503599627370496 + s) := by
  unfold fbits Ieee.Format.word
  obtain ⟨k, hk⟩ : ∃ k : Nat, (i + 1074).toNat = k := ⟨_, rfl⟩
  rw [hk]
  cases neg
  · simp
  · simp
    decide
theorem halfW_of (neg : Bool) (s : Nat) (k : Nat) (h1 : 4503599627370496 ≤ s) (h2 : s < 9007199254740992) (hk1 : 1 ≤ k) (hk : k ≤ 53) : HalfW (fbits neg s (-(k : Int))) neg.toNat (1075 - k) s := by
  have hr : ∀ neg, HalfF (fbits neg s (-(k : Int))) neg s (-(k : Int)) := fun neg => ⟨read_fbits neg s _ h1 h2 (by omega) (by omega), h1, h2, by omega, by omega⟩
  have e : ((1075 - k : Nat) : Int) - 1075 = -(k : Int) := by omega
  have e0 := fbits_eq false s (-(k : Int))
  have e1 := fbits_eq neg s (-(k : Int))
  refine ⟨⟨?_, by cases neg <;> decide, by omega, by omega, h1, h2⟩, ?_, ?_⟩
  · rw [e1]; omega
  · rw [e]
    have : decide (neg.toNat = 1) = neg := by cases neg <;> rfl
    rw [this]; exact hr neg
  · rw [e]
    have : fbits neg s (-(k : Int)) - neg.toNat * 9223372036854775808 = fbits false s (-(k : Int)) := by rw [e0, e1]; simp
    rw [this]; exact hr false
theorem Word64.abs {b s E mant : Nat} (h : Word64 b s E mant) : bits .andNot .u64 (b : Int) 9223372036854775808 = ((b - s * 9223372036854775808 : Nat) : Int) := by
  have hb := h.lt
  have h1 : (BitVec.ofInt 64 (b : Int)).toNat = b := by
    rw [BitVec.ofInt_natCast, BitVec.toNat_ofNat]; exact Nat.mod_eq_of_lt (by omega)
  have h2 : (~~~ BitVec.ofInt 64 9223372036854775808).toNat = 9223372036854775807 := by decide
  have h3 : b &&& 9223372036854775807 = b % 2 ^ 63 := Nat.and_two_pow_sub_one_eq_mod b 63
  show IntKind.u64.wrap ((BitVec.ofInt 64 (b : Int) &&& ~~~ BitVec.ofInt 64 9223372036854775808).toNat : Int) = _
  rw [BitVec.toNat_and, h1, h2, h3, IntKind.wrap_u64]
  obtain ⟨rfl, h1, h2, h3, h4, h5⟩ := h
  omega
set_option maxRecDepth 100000 in
theorem isNaN_any (w : World) (b s E mant : Nat) (h : HalfW b s E mant) : Calls Tryz.prog 82 #[.float .f64 b] w (fun e w' => e = .returned (.bool false) ∧ w' = w) := by
  have hs := h.half.self
  clear h
  go_enter Tryz.func82, Tryz.ntmps82
  go_wp2_with fail
  go_ret
  exact ⟨rfl, rfl⟩
set_option maxRecDepth 100000 in
theorem abs_any (w : World) (b s E mant : Nat) (h : HalfW b s E mant) : Calls Tryz.prog 83 #[.float .f64 b] w (fun e w' => e = .returned (.float .f64 (b - s * 9223372036854775808 : Nat)) ∧ w' = w) := by
  have hfb := fun w' => run_fbits b w'
  have ha := h.word.abs
  obtain ⟨c, hc⟩ : ∃ c, c = b - s * 9223372036854775808 := ⟨_, rfl⟩
  rw [← hc] at ha ⊢
  have hfc := fun w' => run_fromBits c w'
  clear h hc
  go_enter Tryz.func83, Tryz.ntmps83
  go_wp2_with fail
  go_ret
  exact ⟨rfl, rfl⟩
theorem isBuilder_kept {w w' : World} {B b E bb : Nat} {bs : List Value} (h : Lib.IsBuilder 146 5 B b bs w) (hg : w.grownBy w' (some E)) (hEb : E ≠ b) (hE : EncAt w E bb) : Lib.IsBuilder 146 5 B b bs w' := by
  have key : ∀ p, Lib.BuilderAt 146 5 B b p bs w → Lib.BuilderAt 146 5 B b p bs w' := fun p h => by
    have hlt := h.lt
    obtain ⟨h1, v, h2, h3, h4⟩ := h
    exact ⟨h1, v, (hg.block b hlt (fun e => hEb (by injection e with e; exact e.symm))).trans h2, h3.kept hg (Or.inr (Lib.ownBlock_ne h3 hE (by decide))), h4⟩
  rcases h with h | h
  · exact Or.inl (key _ h)
  · exact Or.inr (key _ h)
theorem into_cells {w : World} {E : Nat} {v : Value} {S : List UInt8} {r : List Value} {t : TypeId} (h : w.heap[E]? = some (.cells (v :: (Lib.byteCells S ++ r)).toArray t (0, 0))) : ∀ j u, (Lib.byteCells S)[j]? = some u → w.cell? ((⟨E, 1, none⟩ : Addr).add j) = some u := fun j u hj => by
  rw [show (⟨E, 1, none⟩ : Addr).add j = ⟨E, j + 1, none⟩ by unfold Addr.add; split <;> simp_all [Nat.add_comm]]
  rw [cell_of_row w E (j + 1) _ _ _ h]
  have hlt := (List.getElem?_eq_some_iff.1 hj).1
  rw [List.getElem?_toArray, List.getElem?_cons_succ, List.getElem?_append_left hlt]
  exact hj
theorem byteCells_one (S : List UInt8) : ∀ u ∈ Lib.byteCells S, u.oneCell' = true := fun u hu => by
  obtain ⟨_, _, rfl⟩ := List.mem_map.1 hu; rfl
set_option maxRecDepth 100000 in
set_option maxHeartbeats 4000000 in
theorem encodeFloat_any (w : World) (B bb b E N k mant s : Nat) (hb : Lib.IsBuilder 146 5 B bb [] w) (hE : EncAt w E bb) (hBw : B ≤ w.heap.size) (hEb : E ≠ bb) (hBE : B ≤ E) (hN : N < 9007199254740992) (hk1 : 1 ≤ k) (hk : k ≤ 53) (hm : mant = (2 * N + 1) * 2 ^ (k - 1)) (hW : HalfW b s (1075 - k) mant) :
    Calls Tryz.prog 65 #[.pointer (some ⟨E, 0, none⟩), .float .f64 b] w (EncPost B bb ((if s = 0 then [] else [45]) ++ (wholeD N ++ [46, 53])) w) := by
  have e0 := hE.cell0
  have hlt := hE.lt
  have hmx := hW.half.max w Tryz.prog
  have hmn := hW.half.min w Tryz.prog
  have HNA := Lib.hid (isNaN_any w b s _ mant hW)
  have HAB := Lib.hid (abs_any w b s _ mant hW)
  have HAF := Lib.hid (appendFloat_any w E bb b N k mant s hE hN hk1 hk hm hW.word)
  have hsl : (wholeD N ++ [46, 53]).length ≤ 20 := by have := whole_len hN; simp; omega
  obtain ⟨S, hS⟩ : ∃ S, S = (if s = 0 then [] else [45]) ++ (wholeD N ++ [46, 53]) := ⟨_, rfl⟩
  have hS0 : 0 < S.length := by rw [hS]; simp; omega
  have hS1 : S.length ≤ 64 := by rw [hS, List.length_append]; split <;> simp at hsl ⊢ <;> omega
  rw [← hS] at HAF ⊢
  clear hS hsl
  obtain ⟨c, hc⟩ : ∃ c, c = b - s * 9223372036854775808 := ⟨_, rfl⟩
  have h0 := hW.abs.zero
  have h1 := hW.abs.small
  have h2 := hW.abs.great
  rw [← hc] at h0 h1 h2 HAB
  have HB := Lib.hid hb
  have HE := Lib.hid hE
  clear hW hc hb hE
  go_enter Tryz.func65, Tryz.ntmps65
  go_wp2_with fail
  refine HNA.out.mono ?_
  rintro e w2 ⟨rfl, rfl⟩
  go_wp2_with fail
  refine HAB.out.mono ?_
  rintro e w2 ⟨rfl, rfl⟩
  go_wp2_with fail
  have hgb := HB.out
  have hge := HE.out
  clear hmx hmn h0 h1 h2
  refine HAF.out.mono ?_
  rintro e w3 ⟨rfl, hg3, r, hE3⟩
  have hb3 := isBuilder_kept hgb hg3 hEb hge
  have e3 : w3.cell? ⟨E, 0, none⟩ = some (.iface 144 (.pointer (some ⟨bb, 0, none⟩))) := by rw [cell_of_row w3 E 0 _ _ _ hE3]; rfl
  have hlt3 : E < w3.heap.size := (Array.getElem?_eq_some_iff.1 hE3).1
  have hB3 : B ≤ w3.heap.size := Nat.le_trans hBw hg3.size
  have HWR := Lib.hid (write_any w3 B bb E S.length 64 [] (Lib.byteCells S) hb3 hB3 hEb hlt3 (by simp [Lib.byteCells]) hS0 _ hE3 (into_cells hE3) (byteCells_one S) (by simp; omega))
  have hBel := (Below.refl B w2).grown hg3 hBw (fun k hk => by injection hk; omega)
  have HBE := Lib.hid hBel
  obtain ⟨n, hn⟩ : ∃ n, n = S.length := ⟨_, rfl⟩
  rw [← hn] at HWR hS1 ⊢
  clear hb3 hgb hge hg3 hE3 hn hBel e0
  go_wp2_with fail
  refine HWR.out.mono ?_
  rintro e w4 ⟨rfl, hat, hbel, _⟩
  have HF := Lib.hid (And.intro hat (HBE.out.trans hbel))
  clear hat hbel
  go_wp2_with fail
  go_end0
  exact ⟨rfl, Or.inr HF.out.1, HF.out.2⟩
end Go.Proofs.YtpigccnlembfdaaGreatDoor
