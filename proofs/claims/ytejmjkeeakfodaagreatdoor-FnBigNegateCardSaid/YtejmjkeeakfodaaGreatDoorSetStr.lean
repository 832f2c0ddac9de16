/- The walk of smallbig's SetString at the numeral of an integer that is not 0. Conditions: as the theorem states. -/
import Derived.Test.YtejmjkeeakfodaaGreatDoorBig
import Derived.Test.YtejmjkeeakfodaaGreatDoorWhole
namespace Go.Proofs.YtejmjkeeakfodaaGreatDoor
open Go.RowKit

/-- What SetString leaves. -/
def SetPost (g2 : Nat) (z : Int) (w : World) (e : Ending) (w' : World) : Prop := e = .returned (.tuple #[.pointer (some ⟨g2, 0, none⟩), .bool true]) ∧ w.grownBy w' (some g2) ∧ BigAt w' w'.heap.size (.pointer (some ⟨g2, 0, none⟩)) z
/-- What holds at each digit. -/
structure SS (w wr : World) (l : List UInt8) (j : Nat) (v : Value) : Prop where
  below : Below w.heap.size w wr
  le : j ≤ l.length
  num : ∃ L, NatAt wr v L ∧ Limbs L ∧ Normed L ∧ L.length ≤ j ∧ lval L = val (l.take j) ∧ ∀ b, v.ownBlock = some b → L ≠ [] → w.heap.size ≤ b
theorem take_snoc8 (l : List UInt8) (k : Nat) (y : UInt8) (h : l[k]? = some y) : l.take (k + 1) = l.take k ++ [y] := by
  obtain ⟨hlt, rfl⟩ := List.getElem?_eq_some_iff.1 h
  rw [List.take_add_one, List.getElem?_eq_getElem hlt]; rfl
theorem val_pow (l : List UInt8) (hd : Digs l) (k : Nat) (hk : l.length ≤ k) : val l < 10 ^ k := Nat.lt_of_lt_of_le (val_lt _ l rfl hd) (Nat.pow_le_pow_right (by decide) hk)
set_option maxRecDepth 100000 in
set_option maxHeartbeats 4000000 in
theorem setString_any (w : World) (g2 : Nat) (hg2 : NewBig w g2) (z : Int) (hz0 : z ≠ 0) (hlen : (Lib.itoa z).length ≤ 400) :
    Calls Tryz.prog 46 #[.pointer (some ⟨g2, 0, none⟩), .string (str (Lib.itoa z)), .int .i64 10] w (SetPost g2 z w) := by
  obtain ⟨n, hn⟩ : ∃ n, n = z.natAbs := ⟨_, rfl⟩
  obtain ⟨l, hl⟩ : ∃ l, l = Lib.decDigits n := ⟨_, rfl⟩
  obtain ⟨b, hb⟩ : ∃ b : Bool, b = decide (z < 0) := ⟨_, rfl⟩
  obtain ⟨s, hs⟩ : ∃ s, s = str (Lib.itoa z) := ⟨_, rfl⟩
  have hit : Lib.itoa z = (if b then [45] else []) ++ l := by
    rw [hb, hl, hn]
    by_cases h : z < 0
    · rw [itoa_lt h]; simp [h]
    · rw [itoa_ge h, show z.natAbs = z.toNat by omega]; simp [h]
  have hne : l ≠ [] := by rw [hl]; exact dec_none
  obtain ⟨o, ho⟩ : ∃ o : Nat, o = (if b then 1 else 0) := ⟨_, rfl⟩
  have hsz : s.size = o + l.length := by
    rw [hs, str_size, hit, List.length_append, ho]; cases b <;> simp
  have hidx : ∀ j, l[j]? = (Lib.itoa z)[o + j]? := fun j => by
    rw [hit, ho]
    cases b
    · simp
    · show l[j]? = (45 :: l)[1 + j]?
      rw [show 1 + j = j + 1 by omega]; rfl
  have hget : ∀ (j : Nat) (h : o + j < s.size), ∃ c, l[j]? = some c ∧ (s[o + j]'h).toNat = c.toNat ∧ 48 ≤ c.toNat ∧ c.toNat ≤ 57 := fun j h => by
    have h1 := get_list s (o + j) h
    rw [show s.data.toList = Lib.itoa z by rw [hs, str_list]] at h1
    have h2 := (hidx j).trans h1
    refine ⟨_, h2, rfl, ?_⟩
    have h3 := (dec_facts n).1
    rw [← hl] at h3
    exact h3 _ (List.mem_of_getElem? h2)
  have hlen2 : l.length ≤ 400 := by rw [hit, List.length_append] at hlen; omega
  have hval : val l = n := by rw [hl]; exact (dec_facts n).2.1
  have hn10 : Hid (n < 10 ^ 1000) := Lib.hid (by
    rw [← hval]
    exact val_pow l (by rw [hl]; exact (dec_facts n).1) 1000 (by omega))
  have hpos : 0 < l.length := List.length_pos_iff.2 hne
  have hempty : s.toList.isEmpty = false := by
    rw [ByteArray.toList_eq]
    cases h : s.data.toList with
    | nil =>
      have h9 : s.data.toList.length = s.size := by simp
      rw [h, List.length_nil] at h9
      omega
    | cons c r => rfl
  have h0 : 0 < s.size := by omega
  have hfirst : (b = true ∧ (s[0]'h0).toNat = 45) ∨ (b = false ∧ ∃ c : Nat, (s[0]'h0).toNat = c ∧ 48 ≤ c) := by
    cases hb2 : b
    · right
      have : o = 0 := by rw [ho, hb2]; rfl
      subst this
      obtain ⟨c, _, h2, h3, _⟩ := hget 0 (by omega)
      simp only [Nat.add_zero] at h2
      exact ⟨rfl, _, h2, h3⟩
    · left
      refine ⟨rfl, ?_⟩
      have h1 := get_list s 0 h0
      rw [show s.data.toList = Lib.itoa z by rw [hs, str_list], hit, hb2] at h1
      have h2 : some (45 : UInt8) = some (s[0]'h0) := h1
      rw [← Option.some.inj h2]; rfl
  have hsz4 : s.size ≤ 401 := by rw [hsz, ho]; split <;> omega
  have hbz : b = true ↔ z < 0 := by rw [hb]; simp
  rw [← hs]
  have HG2 := Lib.hid hg2
  have hget2 : ∀ (k : Nat) (h : k < s.size), o ≤ k → ∃ c, l[k - o]? = some c ∧ (s[k]'h).toNat = c.toNat ∧ 48 ≤ c.toNat ∧ c.toNat ≤ 57 := fun k h hok => by
    obtain ⟨j, rfl⟩ : ∃ j, k = o + j := ⟨k - o, by omega⟩
    rw [Nat.add_sub_cancel_left]
    exact hget j h
  have HGET := Lib.hid hget2
  have HSZ := Lib.hid hsz
  have HVAL := Lib.hid hval
  have HN := Lib.hid (And.intro hn (And.intro hn10 (And.intro hpos (And.intro hlen2 hbz))))
  have HO := Lib.hid ho
  clear hg2 hget hget2 hsz hval hn hn10 hpos hlen2 hbz ho hb hl hit hidx hs hne hlen
  rcases hfirst with ⟨rfl, h45⟩ | ⟨rfl, c0, hc0, hc48⟩
  · have ho : o = 1 := HO.out
    go_enter Tryz.func46, Tryz.ntmps46
    go_wp2_with fail
    go_loopw [9, 11, 13, 14, 15] (fun iv cv pv bv xv wr => ∃ (k m p : Nat) (xx : Value), xx = xv ∧ bv = .bool false ∧ iv = .int .i64 k ∧ cv = .int .i64 m ∧ pv = .int .u8 p ∧ k ≤ s.size ∧ m ≤ 400 ∧ Hid (k = 1 + m ∧ (0 < m → p = 48) ∧ SS w wr l m xx)) (fun iv _ _ _ _ _ => s.size - (intOf iv).toNat)
    case atStart => exact ⟨1, 0, 46, _, rfl, rfl, rfl, rfl, rfl, by omega, by omega, Lib.hid ⟨rfl, fun h => by omega, ⟨Below.refl _ _, Nat.zero_le _, [], ⟨none, 0, rfl, Nat.le_refl _, fun h => absurd rfl h⟩, fun a h => (by cases h), fun a h => (by cases h), Nat.le_refl _, rfl, fun b h _ => by cases h⟩⟩⟩
    case round =>
      obtain ⟨k, m, p, xx, rfl, rfl, rfl, rfl, rfl, hk, hm, HF⟩ := hrel
      by_cases hlt : k < s.size
      · obtain ⟨ch, hch, hcs, hc1, hc2⟩ := HGET.out k hlt (by rw [HF.out.1, HO.out]; simp)
        obtain ⟨c, hc⟩ : ∃ c : Nat, c = ch.toNat := ⟨_, rfl⟩
        rw [← hc] at hcs hc1 hc2
        obtain ⟨d, hd⟩ : ∃ d : Nat, d = c - 48 := ⟨_, rfl⟩
        have hcd : (c : Int) - 48 = (d : Int) := by omega
        have hd10 : d < 10 := by omega
        obtain ⟨L, hnat, hL, hno, hLl, hLv, hLb⟩ := HF.out.2.2.num
        have hM := mulAdd_any wr xx L 10 d hnat hL (by omega) (by decide) (by omega)
        have HM := Lib.hid hM
        have HCH := Lib.hid (And.intro hch (And.intro hc hd))
        have HL := Lib.hid (And.intro hLl (And.intro hLv hLb))
        have q1 : ((c : Int) == 95) = false := by rw [beq_eq_false_iff_ne]; omega
        have q2 : (48 : Int) ≤ (c : Int) := by omega
        have q3 : (c : Int) ≤ 57 := by omega
        clear hch hc hd hM hnat hL hno hLl hLv hLb
        go_wp2_with fail
        refine HM.out.mono ?_
        rintro e w2 ⟨v2, L2, rfl, hb2, hnat2, hL2, hno2, hlv2, hlen2, hob2⟩
        have HS2 : Hid (SS w w2 l (m + 1) v2) := Lib.hid ⟨HF.out.2.2.below.trans (hb2.mono HF.out.2.2.below.size), by
            have := (List.getElem?_eq_some_iff.1 HCH.out.1).1
            rw [HF.out.1] at this
            omega, L2, hnat2, hL2, hno2, by have := HL.out.1; omega, by
            have h1 := HCH.out.1
            rw [HF.out.1, HO.out] at h1
            rw [take_snoc8 l m ch (by simpa using h1), val_snoc, ← HL.out.2.1, hlv2, ← HCH.out.2.1, ← HCH.out.2.2], fun b hb _ => by have := hob2 b hb; have := HF.out.2.2.below.size; omega⟩
        clear hb2 hnat2 hL2 hno2 hlv2 hlen2 hob2
        go_wp2_with fail
        go_roundw
        case rel => exact ⟨k + 1, m + 1, 48, _, rfl, by go_num, by go_num, rfl, rfl, by omega, by have := HS2.out.le; have := HN.out.2.2.2.1; omega, Lib.hid ⟨by have := HF.out.1; omega, fun _ => rfl, HS2.out⟩⟩
        case measure => simp [intOf]; omega
      · have hkm : k = s.size := by omega
        have hmm : m = l.length := by have := HF.out.1; have := HSZ.out; have := HO.out; simp at this; omega
        have hp : p = 48 := HF.out.2.1 (by rw [hmm]; exact HN.out.2.2.1)
        obtain ⟨hbel, _, L, hnat, hL, hno, hLl, hLv, hLb⟩ := HF.out.2.2
        rw [hmm, List.take_length, HVAL.out, HN.out.1] at hLv
        have hm0 : ((m : Int) == 0) = false := by rw [beq_eq_false_iff_ne]; have := HN.out.2.2.1; omega
        subst hp
        have hg3 := HG2.out.below hbel
        have hLne : L ≠ [] := by
          rintro rfl
          have : lval [] = 0 := rfl
          omega
        obtain ⟨A, c, rfl⟩ := hnat.shape
        have hgl := HG2.out.lt
        have HFF := Lib.hid (NewBig.fill (nb := true) hg3 hg3.lt (Nat.le_refl _) hnat hL hno (by omega) (by rw [hLv, ← HN.out.1]; exact HN.out.2.1.out) (fun h => by omega) (fun h b hb => by
          have h1 := hLb b hb h
          have h2 := hnat.lt h b hb
          omega))
        have hL0 : 0 < L.length := List.length_pos_iff.2 hLne
        have hd0 : decide ((0 : Int) < (L.length : Int)) = true := by simp; omega
        have hd1 : decide (0 < L.length) = true := by simp; omega
        have HLV := Lib.hid hLv
        have HBEL := Lib.hid hbel
        have k0 := hg3.cell 0
        have k1 := hg3.cell 1
        have f0 := hg3.frozen 0
        have f1 := hg3.frozen 1
        have hlt2 := hg3.lt
        simp at k0 k1
        clear hnat hL hno hLl hLv hLb hLne hg3 hbel HF hkm hmm
        generalize L.length = n9 at *
        go_wp2_with fail
        go_ret2
        refine ⟨rfl, (grown_below' HBEL.out (some g2)).trans (grown_fill wr g2 _ _), ?_⟩
        have h9 := HFF.out
        rw [HLV.out] at h9
        have hbz := HN.out.2.2.2.2
        have hzz : -((z.natAbs : Nat) : Int) = z := by simp at hbz; omega
        rw [if_pos trivial, hzz] at h9
        rw [World.size_setCell, World.size_setCell]
        exact h9
  · have e1 : ((c0 : Int) == 45) = false := by rw [beq_eq_false_iff_ne]; omega
    have e2 : ((c0 : Int) == 43) = false := by rw [beq_eq_false_iff_ne]; omega
    have ho : o = 0 := HO.out
    go_enter Tryz.func46, Tryz.ntmps46
    go_wp2_with fail
    go_loopw [9, 11, 13, 14, 15] (fun iv cv pv bv xv wr => ∃ (k m p : Nat) (xx : Value), xx = xv ∧ bv = .bool false ∧ iv = .int .i64 k ∧ cv = .int .i64 m ∧ pv = .int .u8 p ∧ k ≤ s.size ∧ m ≤ 400 ∧ Hid (k = 0 + m ∧ (0 < m → p = 48) ∧ SS w wr l m xx)) (fun iv _ _ _ _ _ => s.size - (intOf iv).toNat)
    case atStart => exact ⟨0, 0, 46, _, rfl, rfl, rfl, rfl, rfl, by omega, by omega, Lib.hid ⟨rfl, fun h => by omega, ⟨Below.refl _ _, Nat.zero_le _, [], ⟨none, 0, rfl, Nat.le_refl _, fun h => absurd rfl h⟩, fun a h => (by cases h), fun a h => (by cases h), Nat.le_refl _, rfl, fun b h _ => by cases h⟩⟩⟩
    case round =>
      obtain ⟨k, m, p, xx, rfl, rfl, rfl, rfl, rfl, hk, hm, HF⟩ := hrel
      by_cases hlt : k < s.size
      · obtain ⟨ch, hch, hcs, hc1, hc2⟩ := HGET.out k hlt (by rw [HF.out.1, HO.out]; simp)
        obtain ⟨c, hc⟩ : ∃ c : Nat, c = ch.toNat := ⟨_, rfl⟩
        rw [← hc] at hcs hc1 hc2
        obtain ⟨d, hd⟩ : ∃ d : Nat, d = c - 48 := ⟨_, rfl⟩
        have hcd : (c : Int) - 48 = (d : Int) := by omega
        have hd10 : d < 10 := by omega
        obtain ⟨L, hnat, hL, hno, hLl, hLv, hLb⟩ := HF.out.2.2.num
        have hM := mulAdd_any wr xx L 10 d hnat hL (by omega) (by decide) (by omega)
        have HM := Lib.hid hM
        have HCH := Lib.hid (And.intro hch (And.intro hc hd))
        have HL := Lib.hid (And.intro hLl (And.intro hLv hLb))
        have q1 : ((c : Int) == 95) = false := by rw [beq_eq_false_iff_ne]; omega
        have q2 : (48 : Int) ≤ (c : Int) := by omega
        have q3 : (c : Int) ≤ 57 := by omega
        clear hch hc hd hM hnat hL hno hLl hLv hLb
        go_wp2_with fail
        refine HM.out.mono ?_
        rintro e w2 ⟨v2, L2, rfl, hb2, hnat2, hL2, hno2, hlv2, hlen2, hob2⟩
        have HS2 : Hid (SS w w2 l (m + 1) v2) := Lib.hid ⟨HF.out.2.2.below.trans (hb2.mono HF.out.2.2.below.size), by
            have := (List.getElem?_eq_some_iff.1 HCH.out.1).1
            rw [HF.out.1] at this
            omega, L2, hnat2, hL2, hno2, by have := HL.out.1; omega, by
            have h1 := HCH.out.1
            rw [HF.out.1, HO.out] at h1
            rw [take_snoc8 l m ch (by simpa using h1), val_snoc, ← HL.out.2.1, hlv2, ← HCH.out.2.1, ← HCH.out.2.2], fun b hb _ => by have := hob2 b hb; have := HF.out.2.2.below.size; omega⟩
        clear hb2 hnat2 hL2 hno2 hlv2 hlen2 hob2
        go_wp2_with fail
        go_roundw
        case rel => exact ⟨k + 1, m + 1, 48, _, rfl, by go_num, by go_num, rfl, rfl, by omega, by have := HS2.out.le; have := HN.out.2.2.2.1; omega, Lib.hid ⟨by have := HF.out.1; omega, fun _ => rfl, HS2.out⟩⟩
        case measure => simp [intOf]; omega
      · have hkm : k = s.size := by omega
        have hmm : m = l.length := by have := HF.out.1; have := HSZ.out; have := HO.out; simp at this; omega
        have hp : p = 48 := HF.out.2.1 (by rw [hmm]; exact HN.out.2.2.1)
        obtain ⟨hbel, _, L, hnat, hL, hno, hLl, hLv, hLb⟩ := HF.out.2.2
        rw [hmm, List.take_length, HVAL.out, HN.out.1] at hLv
        have hm0 : ((m : Int) == 0) = false := by rw [beq_eq_false_iff_ne]; have := HN.out.2.2.1; omega
        subst hp
        have hg3 := HG2.out.below hbel
        have hLne : L ≠ [] := by
          rintro rfl
          have : lval [] = 0 := rfl
          omega
        obtain ⟨A, c, rfl⟩ := hnat.shape
        have hgl := HG2.out.lt
        have HFF := Lib.hid (NewBig.fill (nb := false) hg3 hg3.lt (Nat.le_refl _) hnat hL hno (by omega) (by rw [hLv, ← HN.out.1]; exact HN.out.2.1.out) (fun h => by omega) (fun h b hb => by
          have h1 := hLb b hb h
          have h2 := hnat.lt h b hb
          omega))
        have hL0 : 0 < L.length := List.length_pos_iff.2 hLne
        have hd0 : decide ((0 : Int) < (L.length : Int)) = true := by simp; omega
        have hd1 : decide (0 < L.length) = true := by simp; omega
        have HLV := Lib.hid hLv
        have HBEL := Lib.hid hbel
        have k0 := hg3.cell 0
        have k1 := hg3.cell 1
        have f0 := hg3.frozen 0
        have f1 := hg3.frozen 1
        have hlt2 := hg3.lt
        simp at k0 k1
        clear hnat hL hno hLl hLv hLb hLne hg3 hbel HF hkm hmm
        generalize L.length = n9 at *
        go_wp2_with fail
        go_ret2
        refine ⟨rfl, (grown_below' HBEL.out (some g2)).trans (grown_fill wr g2 _ _), ?_⟩
        have h9 := HFF.out
        rw [HLV.out] at h9
        have hbz := HN.out.2.2.2.2
        have hzz : ((z.natAbs : Nat) : Int) = z := by simp at hbz; omega
        rw [if_neg (by simp), hzz] at h9
        rw [World.size_setCell, World.size_setCell]
        exact h9
end Go.Proofs.YtejmjkeeakfodaaGreatDoor
