/- The walk of smallbig's text: a number's decimal numeral. Conditions: as the theorem states. -/
import Derived.Test.YtejmjkeeakfodaaGreatDoorRow
import Derived.Test.YtejmjkeeakfodaaGreatDoorStage
import Derived.Deep.AppendLies
namespace Go.Proofs.YtejmjkeeakfodaaGreatDoor
open Go.RowKit

/-- An index into a written string. -/
theorem wp_index_const {P : Program} {o : Oper} {a : Act} {W : World} {K : Act → World → Prop} {Q : Exit → Act → World → Prop} (S : ByteArray) (x : Operand) (t : TypeId) (i v : Nat) (k : IntKind) (ho : o.op = .index t (.const (.string S)) x) (ht : P.underlying t = some .string)
    (iv : Int) (hx : a.eval x = .int k iv) (hiv : iv = (i : Int)) (hlt : i < S.size) (hv : ∀ h : i < S.size, (S[i]'h).toNat = v) (h : K (a.put o.dst (.int .u8 (v : Int))) W) : o.wp P a W K Q := by
  subst hiv
  have hr := run_index_string (P := P) W t S k (i : Int) ht
  rw [dif_pos ⟨by omega, by omega⟩] at hr
  have hv' := hv hlt
  unfold Oper.wp execOp
  rw [ho]
  simp only [Act.eval] at hx ⊢
  rw [hx, Sem.run_bind, hr]
  simp only [Int.toNat_natCast] at hv' ⊢
  rw [hv']
  exact h
theorem grown_below' {w w' : World} (h : Below w.heap.size w w') (row : Option Nat) : w.grownBy w' row := ⟨h.os, h.tape, h.output, h.size, fun i hi _ => h.block i hi⟩
theorem forget_ops {P : Program} {ops : Array Oper} {Q : Exit → Act → World → Prop} {r : List Oper} {a : Act} {w : World} (h : ∀ o, wpList P o Q r a w) : wpList P ops Q r a w := h ops
theorem NatAt.grown {w w' : World} {v : Value} {L : List Nat} {row : Option Nat} (h : NatAt w v L) (hg : w.grownBy w' row) (hr : L ≠ [] → ∀ g, v.ownBlock = some g → row ≠ some g) : NatAt w' v L := by
  obtain ⟨A, c, rfl, hc, hx⟩ := h
  refine ⟨A, c, rfl, hc, fun hn => ?_⟩
  obtain ⟨g, rfl, hlt, hcell⟩ := hx hn
  refine ⟨g, rfl, Nat.lt_of_lt_of_le hlt hg.size, fun i a ha => ?_⟩
  rw [← hcell i a ha]
  exact World.cell?_of_block (hg.block g hlt (Ne.symm (hr hn g rfl)))
theorem NatAt.lt {w : World} {v : Value} {L : List Nat} (h : NatAt w v L) (hn : L ≠ []) (g : Nat) (hg : v.ownBlock = some g) : g < w.heap.size := by
  obtain ⟨A, c, rfl, hc, hx⟩ := h
  obtain ⟨g', rfl, hlt, _⟩ := hx hn
  simp only [Value.ownBlock, Option.some.injEq] at hg
  omega
/-- The text's row is in no block of the number's. -/
def Apart (X : List Nat) (x s : Value) : Prop := X ≠ [] → ∀ g, x.ownBlock = some g → s.ownBlock ≠ some g
/-- What holds at each step of the writing. -/
def Writes (V : Nat) (w wr : World) (x : Value) (X : List Nat) (s : Value) (sd : List Nat) (rest : Nat) : Prop :=
  NatAt wr x X ∧ Below w.heap.size w wr ∧ wr.ownsRow w.heap.size 5 1 s sd.length (encB (dbytes sd)) ∧ rdig V = sd ++ rdig rest ∧ Apart X x s
theorem Writes.short {V : Nat} {w wr : World} {x : Value} {X : List Nat} {s : Value} {sd : List Nat} {rest : Nat} (h : Writes V w wr x X s sd rest) (hV : V < 10 ^ 1000) : sd.length ≤ 1000 := by
  have h1 := rdig_length 1000 V hV
  rw [h.2.2.2.1, List.length_append] at h1
  omega
/-- A digit is written. -/
theorem Writes.step {V : Nat} {w wr w3 : World} {x : Value} {X : List Nat} {s : Value} {sd : List Nat} {Y rr p g cap d bt : Nat} {o : Obj} (h : Writes V w wr x X s sd (Y * (10 * p) + rr)) (hd : d = rr % 10) (hbt : bt = (byteOf d).toNat)
    (hpos : Y * (10 * p) + rr ≠ 0)
    (hown : w3.ownsRow w.heap.size 5 1 (.slice (some ⟨g, 0, none⟩) (sd.length + 1) cap) (sd.length + 1) (encB (dbytes sd) ++ [Value.int .u8 bt])) (hgr : (wr.alloc o).grownBy w3 s.ownBlock) (hor : s.ownBlock = some g ∨ g = wr.heap.size + 1) :
    Writes V w w3 x X (.slice (some ⟨g, 0, none⟩) (sd.length + 1) cap) (sd ++ [d]) (Y * p + rr / 10) := by
  obtain ⟨hx, hb, ho, hr, ha⟩ := h
  have hsz : w.heap.size ≤ wr.heap.size := hb.size
  refine ⟨?_, ?_, ?_, ?_, ?_⟩
  · exact (hx.below ((Below.refl _ _).alloc (Nat.le_refl _) _)).grown hgr ha
  · refine (hb.alloc hsz o).grown hgr (by simp; omega) fun k hk => (ho.lt k hk).1
  · have e : encB (dbytes (sd ++ [d])) = encB (dbytes sd) ++ [Value.int .u8 bt] := by rw [dbytes_snoc, encB_append, hbt]; rfl
    rw [e, List.length_append]
    exact hown
  · rw [hr, rdig_step hpos, hd]; simp
  · intro hX g2 hg2 he
    simp only [Value.ownBlock, Option.some.injEq] at he
    rcases hor with h1 | h1
    · exact ha hX g2 hg2 (by rw [h1, he])
    · have := hx.lt hX g2 hg2
      omega
def lenOf (v : Value) : Nat := match v with | .slice _ k _ => k | _ => 0
theorem Writes.len {V : Nat} {w wr : World} {x : Value} {X : List Nat} {s : Value} {sd : List Nat} {rest : Nat} (h : Writes V w wr x X s sd rest) : lenOf s = sd.length := by
  rcases h.2.2.1.2 with ⟨hs, h0⟩ | ⟨g, cap, cur, hs, _⟩
  · rw [hs, h0]; rfl
  · rw [hs]; rfl
theorem normed_pos {L : List Nat} (hn : Normed L) (h : L ≠ []) : lval L ≠ 0 := lval_pos h (hn _ (List.getLast?_eq_some_getLast h))
/-- The digits turned round. -/
theorem turned (V : Nat) (neg : Bool) (h : V ≠ 0) : (dbytes (rdig V) ++ (if neg then [45] else [])).reverse = textOf V neg := by
  have e : (dbytes (rdig V)).reverse = Lib.decDigits V := by rw [dec_rdig V h]; simp [dbytes, byteOf]
  unfold textOf
  rw [if_neg h]
  cases neg
  · simpa using e
  · simp [e]
theorem byte_toNat (d : Nat) (h : d < 10) : (byteOf d).toNat = 48 + d := u8_of _ (by omega)

set_option maxRecDepth 100000 in
set_option maxHeartbeats 4000000 in
theorem text_any (w : World) (v : Value) (L : List Nat) (neg : Bool) (h : NatAt w v L) (hL : Limbs L) (hno : Normed L) (hlen : L.length ≤ 10000) (hV : lval L < 10 ^ 1000) :
    Calls Tryz.prog 38 #[v, .bool neg, .int .i64 10] w (TextPost (lval L) neg w) := by
  obtain ⟨A, c, rfl, hc, hx⟩ := h
  obtain ⟨n, hn⟩ : ∃ n, n = L.length := ⟨_, rfl⟩
  rw [← hn] at hc hlen ⊢
  obtain ⟨i5, hi, he⟩ := Option.map_eq_some_iff.1 info_u8
  have hz0 : i5.zero = some (.int .u8 0) := congrArg (·.1) he
  have hz1 : i5.size = 1 := congrArg (·.2.1) he
  have hz2 : i5.bytes = 1 := congrArg (·.2.2) he
  have HI := Lib.hid (And.intro hi (And.intro hz0 (And.intro hz1 hz2)))
  have HN := Lib.hid hn
  have HX := Lib.hid hx
  have HL := Lib.hid hL
  have HNO := Lib.hid hno
  have HV := Lib.hid hV
  clear hi he hz0 hz1 hz2 hx hL hno hV hn
  by_cases hn0 : n = 0
  · subst hn0
    have hl : L = [] := List.length_eq_zero_iff.1 HN.out.symm
    have hv0 : lval L = 0 := by rw [hl]; rfl
    have kc := Lib.run_convert_bytes_const (P := Tryz.prog) w 61 5 #[.int .u8 48] 1 1 Tryz.underlying61 Tryz.underlying5
    rw [hv0]
    clear hl hv0
    go_enter Tryz.func38, Tryz.ntmps38
    go_wp2_with fail
    go_ret
    refine ⟨_, rfl, (Below.refl _ _).alloc (Nat.le_refl _) _, _, 1, rfl, fun j hj => ?_⟩
    obtain rfl : j = 0 := by simp [textOf] at hj; omega
    exact cell_of_row _ w.heap.size 0 _ _ _ (heap_alloc_new w _)
  · have hn0' : ((n : Int) == 0) = false := by simp; exact hn0
    go_enter Tryz.func38, Tryz.ntmps38
    go_wp2_with fail
    go_loop [7, 8] (fun bv kv => ∃ k : Nat, 1 ≤ k ∧ k ≤ 9 ∧ bv = .int .u64 ((10 ^ k : Nat) : Int) ∧ kv = .int .i64 k) (fun _ kv => 10 - (intOf kv).toNat)
    case atStart => exact ⟨1, Nat.le_refl _, by decide, rfl, rfl⟩
    case round =>
      obtain ⟨k, hk1, hk2, rfl, rfl⟩ := hrel
      have hks : k = 9 ∨ k = 1 ∨ k = 2 ∨ k = 3 ∨ k = 4 ∨ k = 5 ∨ k = 6 ∨ k = 7 ∨ k = 8 := by omega
      rcases hks with rfl | rfl | rfl | rfl | rfl | rfl | rfl | rfl | rfl
      rotate_left
      · go_wp2_with fail
        exact ⟨⟨2, by decide, by decide, rfl, rfl⟩, by decide⟩
      · go_wp2_with fail
        exact ⟨⟨3, by decide, by decide, rfl, rfl⟩, by decide⟩
      · go_wp2_with fail
        exact ⟨⟨4, by decide, by decide, rfl, rfl⟩, by decide⟩
      · go_wp2_with fail
        exact ⟨⟨5, by decide, by decide, rfl, rfl⟩, by decide⟩
      · go_wp2_with fail
        exact ⟨⟨6, by decide, by decide, rfl, rfl⟩, by decide⟩
      · go_wp2_with fail
        exact ⟨⟨7, by decide, by decide, rfl, rfl⟩, by decide⟩
      · go_wp2_with fail
        exact ⟨⟨8, by decide, by decide, rfl, rfl⟩, by decide⟩
      · go_wp2_with fail
        exact ⟨⟨9, by decide, by decide, rfl, rfl⟩, by decide⟩
      have hX0 := natAt_take (k := n) (c := c) (by have := HN.out; omega) hc HX.out
      rw [HN.out, List.take_length, ← HN.out] at hX0
      have HX0 := Lib.hid hX0
      clear hX0
      go_wp2_with fail
      go_loopw [0, 9] (fun xv sv wr => ∃ (X : List Nat) (sd : List Nat) (x' s' : Value), x' = xv ∧ s' = sv ∧ Hid (Writes (lval L) w wr x' X s' sd (lval X) ∧ Limbs X ∧ Normed X ∧ X.length ≤ n)) (fun _ sv _ => 1001 - lenOf sv)
      case atStart =>
        refine ⟨L, [], _, _, rfl, rfl, Lib.hid ⟨⟨HX0.out, Below.refl _ _, World.ownsRow_nil _ _ _ _, rfl, fun _ g hg => by simp [Value.ownBlock]⟩, HL.out, HNO.out, by have := HN.out; omega⟩⟩
      case round =>
        obtain ⟨X, sd, x', s', rfl, rfl, HF⟩ := hrel
        have hnx := HF.out.1.1
        obtain ⟨A', c', rfl, hc', hx'⟩ := hnx
        by_cases hX : X = []
        · subst hX
          have hV0 : lval L ≠ 0 := normed_pos HNO.out (by intro h; rw [h] at HN; exact hn0 HN.out)
          have hsd : rdig (lval L) = sd := by have := HF.out.1.2.2.2.1; simpa [lval, rdig_zero] using this
          have hsl := HF.out.1.short HV.out
          have hsd0 : 0 < sd.length := by rw [← hsd, rdig_pos hV0]; simp
          have hown := HF.out.1.2.2.1
          have hbel := HF.out.1.2.1
          have hturn := turned (lval L) neg hV0
          rw [hsd] at hturn
          have HT := Lib.hid hturn
          obtain ⟨hi, hz0, hz1, hz2⟩ := HI.out
          clear hturn hsd hx' hc'
          obtain ⟨g0, cap0, rfl⟩ : ∃ g cap, s' = .slice (some ⟨g, 0, none⟩) sd.length cap := by
            rcases hown.2 with ⟨_, h0⟩ | ⟨g, cap, cur, hs, _⟩
            · omega
            · exact ⟨g, cap, hs⟩
          cases neg
          rotate_left
          · go_wp2_with (at_builtin; refine wpList_append_lies _ rfl _ _ 61 rfl w.heap.size 5 i5 (.int .u8 0) 1 1 Tryz.underlying61 hi hz0 hz1 hz2 rfl (by decide) (.slice (some ⟨g0, 0, none⟩) sd.length cap0) sd.length (encB (dbytes sd)) rfl (hown.alloc _) ⟨wr.heap.size, 0, none⟩ 1 1 [.int .u8 45] rfl rfl (fun j u hj => ?_) (by simp [Value.oneCell']) (by decide) (by unfold maxLen; omega) (by omega) (by have := hbel.size; simp; omega) (wr.heap.size + 1) (by simp) ?_)
            intro g cap w3 hown3 hg3 hor3 hlt3
            have hbel3 : Below w.heap.size w w3 := (hbel.alloc hbel.size _).grown hg3 (by have := hbel.size; simp; omega) fun k hk => (hown.lt k hk).1
            obtain ⟨N, hN⟩ : ∃ N, N = sd.length + 1 := ⟨_, rfl⟩
            obtain ⟨bs, hbs⟩ : ∃ bs, bs = dbytes sd ++ [45] := ⟨_, rfl⟩
            have hbl : bs.length = N := by rw [hbs, hN]; simp [dbytes]
            rw [← hN] at hown3 ⊢
            rw [show encB (dbytes sd) ++ [Value.int .u8 45] = encB bs by rw [hbs, encB_append]; rfl] at hown3
            have HQ := Lib.hid (And.intro hbel3 (And.intro hown3 (And.intro hbl (show bs.reverse = textOf (lval L) true by rw [hbs]; simpa using HT.out))))
            have hN1 : 1 ≤ N ∧ N ≤ 1001 := by omega
            clear hbel hown hbel3 hown3 hbl hsl hsd0 hN hbs HT hg3 hor3 hlt3
            go_wp2_with fail
            go_loopw [12, 13] (fun iv jv wq => ∃ (k : Nat) (xs : List UInt8), iv = .int .i64 (k : Nat) ∧ jv = .int .i64 ((N : Int) - 1 - (k : Nat)) ∧ 2 * k ≤ N ∧ Hid (Below w.heap.size w wq ∧ wq.ownsRow w.heap.size 5 1 (.slice (some ⟨g, 0, none⟩) N cap) N (encB xs) ∧ Swapped bs xs k)) (fun iv _ _ => N - (intOf iv).toNat)
            case atStart => exact ⟨0, bs, rfl, by simp, Nat.zero_le _, Lib.hid ⟨HQ.out.1, HQ.out.2.1, swapped_start bs⟩⟩
            case round =>
              obtain ⟨k, xs, rfl, rfl, hkN, HK⟩ := hrel
              have hw := HK.out.2.1
              have hxl : xs.length = N := HK.out.2.2.1.trans HQ.out.2.2.1
              by_cases hgo : (k : Int) < (N : Int) - 1 - k
              · obtain ⟨jn, hjn⟩ : ∃ jn : Nat, (jn : Int) = (N : Int) - 1 - k := ⟨N - 1 - k, by omega⟩
                rw [← hjn] at hgo ⊢
                have hjlt : jn < N := by omega
                have hklt : k < N := by omega
                obtain ⟨bu, hbu⟩ : ∃ b, xs[k]? = some b := ⟨_, List.getElem?_eq_getElem (by omega)⟩
                have hcu := own_cell (i := k) (u := .int .u8 bu.toNat) hw (by simp [encB, hbu])
                obtain ⟨bv, hbv⟩ : ∃ b, xs[jn]? = some b := ⟨_, List.getElem?_eq_getElem (by omega)⟩
                have hcv := own_cell (i := jn) (u := .int .u8 bv.toNat) hw (by simp [encB, hbv])
                go_wp2_with fail
                obtain ⟨u, hu⟩ : ∃ u : Nat, u = bu.toNat := ⟨_, rfl⟩
                obtain ⟨v, hv⟩ : ∃ v : Nat, v = bv.toNat := ⟨_, rfl⟩
                have HU := Lib.hid (And.intro (And.intro hu hv) (And.intro hbu hbv))
                rw [← hu] at hcu
                rw [← hv] at hcv
                have HH := Lib.hid (And.intro hjn (And.intro hw hxl))
                clear hu hv hjn hw hxl hbu hbv
                have hS0 : wr.drew.cell? ⟨g, k, none⟩ = some (.int .u8 u) ∧ wr.drew.cell? ⟨g, jn, none⟩ = some (.int .u8 v) := ⟨hcu, hcv⟩
                refine wp_region_S (Sf := Till 13 (fun _ => True) (fun W => W.cell? ⟨g, k, none⟩ = some (.int .u8 u) ∧ W.cell? ⟨g, jn, none⟩ = some (.int .u8 v))) (by kernel_rfl) ?_
                refine till_take_R (i := 0) 89 (.slice (some ⟨g, 0, none⟩) N cap) rfl rfl (by kernel_rfl) (by kernel_rfl) (by kernel_rfl) (by decide) (fun _ _ _ h => h) (Or.inl ⟨by rfl, ?_⟩) ⟨trivial, fun _ => hS0⟩ ?_
                · intro W hW
                  go_simp
                simp only [Act.put, List.setIfInBounds_toArray, List.set_cons_zero, List.set_cons_succ]
                refine till_take_R (i := 1) 90 (.int .i64 (k : Nat)) rfl rfl (by kernel_rfl) (by kernel_rfl) (by kernel_rfl) (by decide) (fun _ _ _ h => h) (Or.inl ⟨by rfl, ?_⟩) ⟨trivial, fun _ => hS0⟩ ?_
                · intro W hW
                  go_simp
                simp only [Act.put, List.setIfInBounds_toArray, List.set_cons_zero, List.set_cons_succ]
                refine till_take_R (i := 2) 91 (.slice (some ⟨g, 0, none⟩) N cap) rfl rfl (by kernel_rfl) (by kernel_rfl) (by kernel_rfl) (by decide) (fun _ _ _ h => h) (Or.inl ⟨by rfl, ?_⟩) ⟨trivial, fun _ => hS0⟩ ?_
                · intro W hW
                  go_simp
                simp only [Act.put, List.setIfInBounds_toArray, List.set_cons_zero, List.set_cons_succ]
                refine till_take_R (i := 3) 92 (.int .i64 (jn : Nat)) rfl rfl (by kernel_rfl) (by kernel_rfl) (by kernel_rfl) (by decide) (fun _ _ _ h => h) (Or.inl ⟨by rfl, ?_⟩) ⟨trivial, fun _ => hS0⟩ ?_
                · intro W hW
                  go_simp
                simp only [Act.put, List.setIfInBounds_toArray, List.set_cons_zero, List.set_cons_succ]
                refine till_take_R (i := 4) 93 (.slice (some ⟨g, 0, none⟩) N cap) rfl rfl (by kernel_rfl) (by kernel_rfl) (by kernel_rfl) (by decide) (fun _ _ _ h => h) (Or.inl ⟨by rfl, ?_⟩) ⟨trivial, fun _ => hS0⟩ ?_
                · intro W hW
                  go_simp
                simp only [Act.put, List.setIfInBounds_toArray, List.set_cons_zero, List.set_cons_succ]
                refine till_take_R (i := 5) 94 (.int .i64 (jn : Nat)) rfl rfl (by kernel_rfl) (by kernel_rfl) (by kernel_rfl) (by decide) (fun _ _ _ h => h) (Or.inl ⟨by rfl, ?_⟩) ⟨trivial, fun _ => hS0⟩ ?_
                · intro W hW
                  go_simp
                simp only [Act.put, List.setIfInBounds_toArray, List.set_cons_zero, List.set_cons_succ]
                refine till_take_R (i := 6) 95 (.pointer (some ⟨g, jn, none⟩)) rfl rfl (by kernel_rfl) (by kernel_rfl) (by kernel_rfl) (by decide) (fun _ _ _ h => h) (Or.inl ⟨by rfl, ?_⟩) ⟨trivial, fun _ => hS0⟩ ?_
                · intro W hW
                  go_simp
                simp only [Act.put, List.setIfInBounds_toArray, List.set_cons_zero, List.set_cons_succ]
                refine till_take_S (i := 7) 96 (.int .u8 v) rfl rfl (by kernel_rfl) (by kernel_rfl) (by kernel_rfl) (by decide) (by kernel_rfl) (by kernel_rfl) (fun _ _ _ h => h) (Or.inl ⟨by rfl, ?_⟩) ⟨trivial, fun _ => hS0⟩ ?_
                · intro W hW
                  obtain ⟨hW1, hW2⟩ := hW
                  go_simp
                simp only [Act.put, List.setIfInBounds_toArray, List.set_cons_zero, List.set_cons_succ]
                refine till_take_R (i := 8) 97 (.slice (some ⟨g, 0, none⟩) N cap) rfl rfl (by kernel_rfl) (by kernel_rfl) (by kernel_rfl) (by decide) (fun _ _ _ h => h) (Or.inl ⟨by rfl, ?_⟩) ⟨trivial, fun _ => hS0⟩ ?_
                · intro W hW
                  go_simp
                simp only [Act.put, List.setIfInBounds_toArray, List.set_cons_zero, List.set_cons_succ]
                refine till_take_R (i := 9) 98 (.int .i64 (k : Nat)) rfl rfl (by kernel_rfl) (by kernel_rfl) (by kernel_rfl) (by decide) (fun _ _ _ h => h) (Or.inl ⟨by rfl, ?_⟩) ⟨trivial, fun _ => hS0⟩ ?_
                · intro W hW
                  go_simp
                simp only [Act.put, List.setIfInBounds_toArray, List.set_cons_zero, List.set_cons_succ]
                refine till_take_R (i := 10) 99 (.pointer (some ⟨g, k, none⟩)) rfl rfl (by kernel_rfl) (by kernel_rfl) (by kernel_rfl) (by decide) (fun _ _ _ h => h) (Or.inl ⟨by rfl, ?_⟩) ⟨trivial, fun _ => hS0⟩ ?_
                · intro W hW
                  go_simp
                simp only [Act.put, List.setIfInBounds_toArray, List.set_cons_zero, List.set_cons_succ]
                refine till_take_S (i := 11) 100 (.int .u8 u) rfl rfl (by kernel_rfl) (by kernel_rfl) (by kernel_rfl) (by decide) (by kernel_rfl) (by kernel_rfl) (fun _ _ _ h => h) (Or.inl ⟨by rfl, ?_⟩) ⟨trivial, fun _ => hS0⟩ ?_
                · intro W hW
                  obtain ⟨hW1, hW2⟩ := hW
                  go_simp
                simp only [Act.put, List.setIfInBounds_toArray, List.set_cons_zero, List.set_cons_succ]
                refine till_take_R (i := 12) 101 (.pointer (some ⟨g, k, none⟩)) rfl rfl (by kernel_rfl) (by kernel_rfl) (by kernel_rfl) (by decide) (fun _ _ _ h => h) (Or.inl ⟨by rfl, ?_⟩) ⟨trivial, fun _ => hS0⟩ ?_
                · intro W hW
                  go_simp
                simp only [Act.put, List.setIfInBounds_toArray, List.set_cons_zero, List.set_cons_succ]
                have hw0 : wr.ownsRow w.heap.size 5 1 (.slice (some ⟨g, 0, none⟩) N cap) N (encB xs) := HH.out.2.1
                have hf0 := own_frozen hw0 (by omega) k
                have hc0 := hS0.1
                have hw1 := own_set hw0 hklt (.int .u8 (v : Nat))
                have hf1 := own_frozen hw0 (by omega) jn
                have hc1 : (wr.setCell ⟨g, k, none⟩ (.int .u8 (v : Nat))).cell? ⟨g, jn, none⟩ = some (.int .u8 v) := own_cell hw1 (by rw [List.getElem?_set_ne (by omega)]; simp [encB, HU.out.2.2, HU.out.1.2])
                have hw2 := own_set hw1 hjlt (.int .u8 (u : Nat))
                have hend : (Below w.heap.size w (((wr.setCell ⟨g, k, none⟩ (.int .u8 (v : Nat))).setCell ⟨g, jn, none⟩ (.int .u8 (u : Nat))).drew) ∧ (((wr.setCell ⟨g, k, none⟩ (.int .u8 (v : Nat))).setCell ⟨g, jn, none⟩ (.int .u8 (u : Nat))).drew).ownsRow w.heap.size 5 1 (.slice (some ⟨g, 0, none⟩) N cap) N (encB ((xs.set k bv).set jn bu)) ∧ Swapped bs ((xs.set k bv).set jn bu) (k + 1)) := by
                  have hg := (HH.out.2.1.lt g rfl).1
                  refine ⟨((HK.out.1.setCell hg _).setCell hg _).drew, ?_, ?_⟩
                  · rw [show encB ((xs.set k bv).set jn bu) = ((encB xs).set k (.int .u8 (v : Nat))).set jn (.int .u8 (u : Nat)) by simp only [encB, List.map_set, HU.out.1.1, HU.out.1.2]]
                    exact hw2
                  · have e : jn = bs.length - 1 - k := by have h1 := HQ.out.2.2.1; have h2 := HH.out.1; omega
                    rw [e]
                    exact swapped_step HK.out.2.2 (by have h1 := HQ.out.2.2.1; have h2 := HH.out.1; omega) HU.out.2.1 (by rw [← e]; exact HU.out.2.2)
                have HEND := Lib.hid hend
                clear hend hw0 hw1 hw2
                refine anyS_ready (rs := [13]) (by kernel_rfl) (by simp) ?_
                refine AllS.cons rfl (fun K hK => ?_) AllS.nil
                go_simp
                refine hK.out _ _ ⟨trivial, fun h => by have h2 : (true : Bool) = false := h; cases h2⟩ ?_
                clear hK K
                refine till_take_R (i := 14) 102 (.pointer (some ⟨g, jn, none⟩)) rfl rfl (by kernel_rfl) (by kernel_rfl) (by kernel_rfl) (by decide) (fun _ _ _ h => h) (Or.inl ⟨by rfl, ?_⟩) ⟨trivial, fun h => by have h2 : (true : Bool) = false := h; cases h2⟩ ?_
                · intro W hW
                  go_simp
                simp only [Act.put, List.setIfInBounds_toArray, List.set_cons_zero, List.set_cons_succ]
                refine anyS_ready (rs := [15]) (by kernel_rfl) (by simp) ?_
                refine AllS.cons rfl (fun K hK => ?_) AllS.nil
                go_simp
                refine hK.out _ _ ⟨trivial, fun h => by have h2 : (true : Bool) = false := h; cases h2⟩ ?_
                clear hK K
                refine anyS_done (by kernel_rfl) ?_ _
                go_wp2_with fail
                go_roundw
                case rel => have hjz := HH.out.1; exact ⟨k + 1, _, by go_num, by go_num, by omega, HEND⟩
                case measure => have hjz := HH.out.1; simp [intOf]; omega
              · have hk2 : N ≤ 2 * k + 1 := by omega
                have hxs : xs = bs.reverse := swapped_end HK.out.2.2 (by rw [HQ.out.2.2.1]; exact hk2)
                go_wp2_with fail
                go_ret
                refine ⟨_, rfl, HK.out.1, ?_⟩
                rw [hxs, HQ.out.2.2.2] at hw
                have hlt : N = (textOf (lval L) true).length := by rw [← HQ.out.2.2.2, List.length_reverse]; exact HQ.out.2.2.1.symm
                rw [hlt] at hw ⊢
                refine BytesAt.of_own hw (by intro h; rw [h] at hlt; simp at hlt; omega)
          · obtain ⟨g, hg0⟩ : ∃ g, g = g0 := ⟨_, rfl⟩
            subst hg0
            obtain ⟨cap, hcap0⟩ : ∃ c, c = cap0 := ⟨_, rfl⟩
            subst hcap0
            obtain ⟨N, hN⟩ : ∃ N, N = sd.length := ⟨_, rfl⟩
            obtain ⟨bs, hbs⟩ : ∃ bs, bs = dbytes sd := ⟨_, rfl⟩
            have hbl : bs.length = N := by rw [hbs, hN]; simp [dbytes]
            rw [← hN] at hown ⊢
            rw [← hbs] at hown
            obtain ⟨w3, hw3⟩ : ∃ w3, w3 = wr := ⟨_, rfl⟩
            have HQ := Lib.hid (And.intro hbel (And.intro hown (And.intro hbl (show bs.reverse = textOf (lval L) false by rw [hbs]; simpa using HT.out))))
            rw [← hw3] at HQ ⊢
            have hN1 : 1 ≤ N ∧ N ≤ 1001 := by omega
            clear hbel hown hbl hsl hsd0 hN hbs HT hw3
            go_wp2_with fail
            go_loopw [12, 13] (fun iv jv wq => ∃ (k : Nat) (xs : List UInt8), iv = .int .i64 (k : Nat) ∧ jv = .int .i64 ((N : Int) - 1 - (k : Nat)) ∧ 2 * k ≤ N ∧ Hid (Below w.heap.size w wq ∧ wq.ownsRow w.heap.size 5 1 (.slice (some ⟨g, 0, none⟩) N cap) N (encB xs) ∧ Swapped bs xs k)) (fun iv _ _ => N - (intOf iv).toNat)
            case atStart => exact ⟨0, bs, rfl, by simp, Nat.zero_le _, Lib.hid ⟨HQ.out.1, HQ.out.2.1, swapped_start bs⟩⟩
            case round =>
              obtain ⟨k, xs, rfl, rfl, hkN, HK⟩ := hrel
              have hw := HK.out.2.1
              have hxl : xs.length = N := HK.out.2.2.1.trans HQ.out.2.2.1
              by_cases hgo : (k : Int) < (N : Int) - 1 - k
              · obtain ⟨jn, hjn⟩ : ∃ jn : Nat, (jn : Int) = (N : Int) - 1 - k := ⟨N - 1 - k, by omega⟩
                rw [← hjn] at hgo ⊢
                have hjlt : jn < N := by omega
                have hklt : k < N := by omega
                obtain ⟨bu, hbu⟩ : ∃ b, xs[k]? = some b := ⟨_, List.getElem?_eq_getElem (by omega)⟩
                have hcu := own_cell (i := k) (u := .int .u8 bu.toNat) hw (by simp [encB, hbu])
                obtain ⟨bv, hbv⟩ : ∃ b, xs[jn]? = some b := ⟨_, List.getElem?_eq_getElem (by omega)⟩
                have hcv := own_cell (i := jn) (u := .int .u8 bv.toNat) hw (by simp [encB, hbv])
                go_wp2_with fail
                obtain ⟨u, hu⟩ : ∃ u : Nat, u = bu.toNat := ⟨_, rfl⟩
                obtain ⟨v, hv⟩ : ∃ v : Nat, v = bv.toNat := ⟨_, rfl⟩
                have HU := Lib.hid (And.intro (And.intro hu hv) (And.intro hbu hbv))
                rw [← hu] at hcu
                rw [← hv] at hcv
                have HH := Lib.hid (And.intro hjn (And.intro hw hxl))
                clear hu hv hjn hw hxl hbu hbv
                have hS0 : wr.drew.cell? ⟨g, k, none⟩ = some (.int .u8 u) ∧ wr.drew.cell? ⟨g, jn, none⟩ = some (.int .u8 v) := ⟨hcu, hcv⟩
                refine wp_region_S (Sf := Till 13 (fun _ => True) (fun W => W.cell? ⟨g, k, none⟩ = some (.int .u8 u) ∧ W.cell? ⟨g, jn, none⟩ = some (.int .u8 v))) (by kernel_rfl) ?_
                refine till_take_R (i := 0) 89 (.slice (some ⟨g, 0, none⟩) N cap) rfl rfl (by kernel_rfl) (by kernel_rfl) (by kernel_rfl) (by decide) (fun _ _ _ h => h) (Or.inl ⟨by rfl, ?_⟩) ⟨trivial, fun _ => hS0⟩ ?_
                · intro W hW
                  go_simp
                simp only [Act.put, List.setIfInBounds_toArray, List.set_cons_zero, List.set_cons_succ]
                refine till_take_R (i := 1) 90 (.int .i64 (k : Nat)) rfl rfl (by kernel_rfl) (by kernel_rfl) (by kernel_rfl) (by decide) (fun _ _ _ h => h) (Or.inl ⟨by rfl, ?_⟩) ⟨trivial, fun _ => hS0⟩ ?_
                · intro W hW
                  go_simp
                simp only [Act.put, List.setIfInBounds_toArray, List.set_cons_zero, List.set_cons_succ]
                refine till_take_R (i := 2) 91 (.slice (some ⟨g, 0, none⟩) N cap) rfl rfl (by kernel_rfl) (by kernel_rfl) (by kernel_rfl) (by decide) (fun _ _ _ h => h) (Or.inl ⟨by rfl, ?_⟩) ⟨trivial, fun _ => hS0⟩ ?_
                · intro W hW
                  go_simp
                simp only [Act.put, List.setIfInBounds_toArray, List.set_cons_zero, List.set_cons_succ]
                refine till_take_R (i := 3) 92 (.int .i64 (jn : Nat)) rfl rfl (by kernel_rfl) (by kernel_rfl) (by kernel_rfl) (by decide) (fun _ _ _ h => h) (Or.inl ⟨by rfl, ?_⟩) ⟨trivial, fun _ => hS0⟩ ?_
                · intro W hW
                  go_simp
                simp only [Act.put, List.setIfInBounds_toArray, List.set_cons_zero, List.set_cons_succ]
                refine till_take_R (i := 4) 93 (.slice (some ⟨g, 0, none⟩) N cap) rfl rfl (by kernel_rfl) (by kernel_rfl) (by kernel_rfl) (by decide) (fun _ _ _ h => h) (Or.inl ⟨by rfl, ?_⟩) ⟨trivial, fun _ => hS0⟩ ?_
                · intro W hW
                  go_simp
                simp only [Act.put, List.setIfInBounds_toArray, List.set_cons_zero, List.set_cons_succ]
                refine till_take_R (i := 5) 94 (.int .i64 (jn : Nat)) rfl rfl (by kernel_rfl) (by kernel_rfl) (by kernel_rfl) (by decide) (fun _ _ _ h => h) (Or.inl ⟨by rfl, ?_⟩) ⟨trivial, fun _ => hS0⟩ ?_
                · intro W hW
                  go_simp
                simp only [Act.put, List.setIfInBounds_toArray, List.set_cons_zero, List.set_cons_succ]
                refine till_take_R (i := 6) 95 (.pointer (some ⟨g, jn, none⟩)) rfl rfl (by kernel_rfl) (by kernel_rfl) (by kernel_rfl) (by decide) (fun _ _ _ h => h) (Or.inl ⟨by rfl, ?_⟩) ⟨trivial, fun _ => hS0⟩ ?_
                · intro W hW
                  go_simp
                simp only [Act.put, List.setIfInBounds_toArray, List.set_cons_zero, List.set_cons_succ]
                refine till_take_S (i := 7) 96 (.int .u8 v) rfl rfl (by kernel_rfl) (by kernel_rfl) (by kernel_rfl) (by decide) (by kernel_rfl) (by kernel_rfl) (fun _ _ _ h => h) (Or.inl ⟨by rfl, ?_⟩) ⟨trivial, fun _ => hS0⟩ ?_
                · intro W hW
                  obtain ⟨hW1, hW2⟩ := hW
                  go_simp
                simp only [Act.put, List.setIfInBounds_toArray, List.set_cons_zero, List.set_cons_succ]
                refine till_take_R (i := 8) 97 (.slice (some ⟨g, 0, none⟩) N cap) rfl rfl (by kernel_rfl) (by kernel_rfl) (by kernel_rfl) (by decide) (fun _ _ _ h => h) (Or.inl ⟨by rfl, ?_⟩) ⟨trivial, fun _ => hS0⟩ ?_
                · intro W hW
                  go_simp
                simp only [Act.put, List.setIfInBounds_toArray, List.set_cons_zero, List.set_cons_succ]
                refine till_take_R (i := 9) 98 (.int .i64 (k : Nat)) rfl rfl (by kernel_rfl) (by kernel_rfl) (by kernel_rfl) (by decide) (fun _ _ _ h => h) (Or.inl ⟨by rfl, ?_⟩) ⟨trivial, fun _ => hS0⟩ ?_
                · intro W hW
                  go_simp
                simp only [Act.put, List.setIfInBounds_toArray, List.set_cons_zero, List.set_cons_succ]
                refine till_take_R (i := 10) 99 (.pointer (some ⟨g, k, none⟩)) rfl rfl (by kernel_rfl) (by kernel_rfl) (by kernel_rfl) (by decide) (fun _ _ _ h => h) (Or.inl ⟨by rfl, ?_⟩) ⟨trivial, fun _ => hS0⟩ ?_
                · intro W hW
                  go_simp
                simp only [Act.put, List.setIfInBounds_toArray, List.set_cons_zero, List.set_cons_succ]
                refine till_take_S (i := 11) 100 (.int .u8 u) rfl rfl (by kernel_rfl) (by kernel_rfl) (by kernel_rfl) (by decide) (by kernel_rfl) (by kernel_rfl) (fun _ _ _ h => h) (Or.inl ⟨by rfl, ?_⟩) ⟨trivial, fun _ => hS0⟩ ?_
                · intro W hW
                  obtain ⟨hW1, hW2⟩ := hW
                  go_simp
                simp only [Act.put, List.setIfInBounds_toArray, List.set_cons_zero, List.set_cons_succ]
                refine till_take_R (i := 12) 101 (.pointer (some ⟨g, k, none⟩)) rfl rfl (by kernel_rfl) (by kernel_rfl) (by kernel_rfl) (by decide) (fun _ _ _ h => h) (Or.inl ⟨by rfl, ?_⟩) ⟨trivial, fun _ => hS0⟩ ?_
                · intro W hW
                  go_simp
                simp only [Act.put, List.setIfInBounds_toArray, List.set_cons_zero, List.set_cons_succ]
                have hw0 : wr.ownsRow w.heap.size 5 1 (.slice (some ⟨g, 0, none⟩) N cap) N (encB xs) := HH.out.2.1
                have hf0 := own_frozen hw0 (by omega) k
                have hc0 := hS0.1
                have hw1 := own_set hw0 hklt (.int .u8 (v : Nat))
                have hf1 := own_frozen hw0 (by omega) jn
                have hc1 : (wr.setCell ⟨g, k, none⟩ (.int .u8 (v : Nat))).cell? ⟨g, jn, none⟩ = some (.int .u8 v) := own_cell hw1 (by rw [List.getElem?_set_ne (by omega)]; simp [encB, HU.out.2.2, HU.out.1.2])
                have hw2 := own_set hw1 hjlt (.int .u8 (u : Nat))
                have hend : (Below w.heap.size w (((wr.setCell ⟨g, k, none⟩ (.int .u8 (v : Nat))).setCell ⟨g, jn, none⟩ (.int .u8 (u : Nat))).drew) ∧ (((wr.setCell ⟨g, k, none⟩ (.int .u8 (v : Nat))).setCell ⟨g, jn, none⟩ (.int .u8 (u : Nat))).drew).ownsRow w.heap.size 5 1 (.slice (some ⟨g, 0, none⟩) N cap) N (encB ((xs.set k bv).set jn bu)) ∧ Swapped bs ((xs.set k bv).set jn bu) (k + 1)) := by
                  have hg := (HH.out.2.1.lt g rfl).1
                  refine ⟨((HK.out.1.setCell hg _).setCell hg _).drew, ?_, ?_⟩
                  · rw [show encB ((xs.set k bv).set jn bu) = ((encB xs).set k (.int .u8 (v : Nat))).set jn (.int .u8 (u : Nat)) by simp only [encB, List.map_set, HU.out.1.1, HU.out.1.2]]
                    exact hw2
                  · have e : jn = bs.length - 1 - k := by have h1 := HQ.out.2.2.1; have h2 := HH.out.1; omega
                    rw [e]
                    exact swapped_step HK.out.2.2 (by have h1 := HQ.out.2.2.1; have h2 := HH.out.1; omega) HU.out.2.1 (by rw [← e]; exact HU.out.2.2)
                have HEND := Lib.hid hend
                clear hend hw0 hw1 hw2
                refine anyS_ready (rs := [13]) (by kernel_rfl) (by simp) ?_
                refine AllS.cons rfl (fun K hK => ?_) AllS.nil
                go_simp
                refine hK.out _ _ ⟨trivial, fun h => by have h2 : (true : Bool) = false := h; cases h2⟩ ?_
                clear hK K
                refine till_take_R (i := 14) 102 (.pointer (some ⟨g, jn, none⟩)) rfl rfl (by kernel_rfl) (by kernel_rfl) (by kernel_rfl) (by decide) (fun _ _ _ h => h) (Or.inl ⟨by rfl, ?_⟩) ⟨trivial, fun h => by have h2 : (true : Bool) = false := h; cases h2⟩ ?_
                · intro W hW
                  go_simp
                simp only [Act.put, List.setIfInBounds_toArray, List.set_cons_zero, List.set_cons_succ]
                refine anyS_ready (rs := [15]) (by kernel_rfl) (by simp) ?_
                refine AllS.cons rfl (fun K hK => ?_) AllS.nil
                go_simp
                refine hK.out _ _ ⟨trivial, fun h => by have h2 : (true : Bool) = false := h; cases h2⟩ ?_
                clear hK K
                refine anyS_done (by kernel_rfl) ?_ _
                go_wp2_with fail
                go_roundw
                case rel => have hjz := HH.out.1; exact ⟨_, _, _, _, _, _, _, _, _, _, _, _, _, _, _, _, _, _, _, _, _, _, _, ⟨k + 1, _, by go_num, by go_num, by omega, HEND⟩, rfl⟩
                case measure => have hjz := HH.out.1; simp [intOf]; omega
              · have hk2 : N ≤ 2 * k + 1 := by omega
                have hxs : xs = bs.reverse := swapped_end HK.out.2.2 (by rw [HQ.out.2.2.1]; exact hk2)
                go_wp2_with fail
                go_ret
                refine ⟨_, rfl, HK.out.1, ?_⟩
                rw [hxs, HQ.out.2.2.2] at hw
                have hlt : N = (textOf (lval L) false).length := by rw [← HQ.out.2.2.2, List.length_reverse]; exact HQ.out.2.2.1.symm
                rw [hlt] at hw ⊢
                refine BytesAt.of_own hw (by intro h; rw [h] at hlt; simp at hlt; omega)
        · have hXn : 0 < X.length := List.length_pos_iff.2 hX
          obtain ⟨m, hm⟩ : ∃ m, m = X.length := ⟨_, rfl⟩
          have hD := divW_any wr _ X 1000000000 HF.out.1.1 HF.out.2.1 (by have := HF.out.2.2.2; omega) (by decide) (by decide)
          rw [← hm] at hD hXn ⊢
          have HD := Lib.hid hD
          have HM := Lib.hid hm
          have HXX := Lib.hid hX
          have HW := Lib.hid HF.out.1
          clear hD hm hX hx' hc'
          go_wp2_with fail
          refine HD.out.mono ?_
          rintro e w2 ⟨x2, X2, r, rfl, hb2, hnat2, hL2, hno2, hdiv, hr, hlen2, hfresh⟩
          have HN2 := Lib.hid hnat2
          obtain ⟨A2, c2, rfl, hc2, hx2⟩ := hnat2
          obtain ⟨m2, hm2⟩ : ∃ m2, m2 = X2.length := ⟨_, rfl⟩
          have HF2 := Lib.hid hfresh
          rw [← hm2] at HN2 HF2 ⊢
          have hs2 : Writes (lval L) w w2 (.slice A2 m2 c2) X2 s' sd (lval X2 * 10 ^ (9 - 0) + r) := by
            obtain ⟨h1, h2, h3, h4, h5⟩ := HW.out
            refine ⟨HN2.out, h2.trans (hb2.mono h2.size), h3.kept (grown_below' hb2 none) (by cases s'.ownBlock <;> simp), by rw [h4, hdiv], fun _ g hg hs => ?_⟩
            have h6 := HF2.out g hg
            have h7 := (h3.lt g hs).2
            omega
          have HS2 := Lib.hid hs2
          have HM2 := Lib.hid hm2
          have HX2 := Lib.hid (And.intro hL2 (And.intro hno2 (And.intro hdiv hlen2)))
          clear hs2 hm2 hL2 hno2 hdiv hlen2 hfresh hx2 hc2 hb2 HN2 HF2
          go_wp2_with fail
          go_loopw [9, 10, 11] (fun sv rv iv wz => ∃ (i rr : Nat) (sd2 : List Nat) (s2 : Value), s2 = sv ∧ rv = .int .u32 rr ∧ iv = .int .i64 i ∧ i ≤ 9 ∧ rr < 10 ^ (9 - i) ∧ Hid (Writes (lval L) w wz (.slice A2 m2 c2) X2 s2 sd2 (lval X2 * 10 ^ (9 - i) + rr) ∧ (0 < i ∨ (s2 = s' ∧ sd2 = sd)) ∧ sd.length + i ≤ sd2.length)) (fun _ _ iv _ => 9 - (intOf iv).toNat)
          case atStart => exact ⟨0, r, sd, _, rfl, rfl, rfl, Nat.zero_le _, hr, Lib.hid ⟨HS2.out, Or.inr ⟨rfl, rfl⟩, Nat.le_refl _⟩⟩
          case round =>
            obtain ⟨i, rr, sd2, s2, rfl, rfl, rfl, hi9, hrr, HG⟩ := hrel
            obtain ⟨wz, hwz⟩ : ∃ x, x = wr := ⟨_, rfl⟩
            subst hwz
            have hrr32 : rr ≤ 4294967295 := by
              have h1 : 10 ^ (9 - i) ≤ 10 ^ 9 := Nat.pow_le_pow_right (by decide) (by omega)
              have h2 : (10 : Nat) ^ 9 = 1000000000 := by decide
              omega
            have hsl := HG.out.1.short HV.out
            by_cases hgo : i < 9 ∧ (0 < m2 ∨ 0 < rr)
            · obtain ⟨hi9', hmr⟩ := hgo
              obtain ⟨d, hd⟩ : ∃ d, d = rr % 10 := ⟨_, rfl⟩
              have hdz : (rr : Int) % 10 = (d : Int) := by omega
              have hd10 : d < 10 := by omega
              obtain ⟨bt, hbt⟩ : ∃ bt, bt = (byteOf d).toNat := ⟨_, rfl⟩
              have hbd := hbt.trans (byte_toNat d hd10)
              have HBT := Lib.hid hbt
              clear hbt
              obtain ⟨hi, hz0, hz1, hz2⟩ := HI.out
              have h10 : 10 ^ (9 - i) = 10 * 10 ^ (8 - i) := by rw [show 9 - i = (8 - i) + 1 by omega, Nat.pow_succ, Nat.mul_comm]
              have hrr' : rr / 10 < 10 ^ (9 - (i + 1)) := by
                rw [show 9 - (i + 1) = 8 - i by omega]
                omega
              have hpos : lval X2 * 10 ^ (9 - i) + rr ≠ 0 := by
                rcases hmr with h1 | h1
                · have h2 := normed_pos HX2.out.2.1 (by intro h3; rw [h3] at HM2; have := HM2.out; simp at this; omega)
                  have h4 : 0 < lval X2 * 10 ^ (9 - i) := Nat.mul_pos (Nat.pos_of_ne_zero h2) (Nat.pow_pos (by decide))
                  omega
                · omega
              have HP := Lib.hid (And.intro h10 (And.intro hrr' hpos))
              clear h10 hrr' hpos hrr
              have harm : 0 < m2 ∨ (m2 = 0 ∧ 0 < rr) := by omega
              rcases harm with hm0 | ⟨rfl, hm0⟩
              all_goals go_wp2_with fail
              all_goals refine wp_index_const _ _ 9 d bt .u32 rfl Tryz.underlying9 _ rfl (by first | exact hdz | rfl | omega | (simp; omega)) (Nat.lt_of_lt_of_le hd10 (by decide)) (fun h => ?_) ?_
              · have hds : d = 0 ∨ d = 1 ∨ d = 2 ∨ d = 3 ∨ d = 4 ∨ d = 5 ∨ d = 6 ∨ d = 7 ∨ d = 8 ∨ d = 9 := by omega
                rw [hbd]
                rcases hds with rfl | rfl | rfl | rfl | rfl | rfl | rfl | rfl | rfl | rfl <;> rfl
              rotate_left
              · have hds : d = 0 ∨ d = 1 ∨ d = 2 ∨ d = 3 ∨ d = 4 ∨ d = 5 ∨ d = 6 ∨ d = 7 ∨ d = 8 ∨ d = 9 := by omega
                rw [hbd]
                rcases hds with rfl | rfl | rfl | rfl | rfl | rfl | rfl | rfl | rfl | rfl <;> rfl
              all_goals have HBD := Lib.hid hbd
              all_goals have HDZ := Lib.hid hdz
              all_goals have HD := Lib.hid hd
              all_goals clear hbd hdz hd
              all_goals rename_i K hK
              all_goals refine hK _ _ ?_
              all_goals refine forget_ops (fun ops => ?_)
              all_goals clear hK
              all_goals clear K
              all_goals have hHG := HG.out.1.2.2.1
              all_goals go_wp2_with (at_builtin; refine wpList_append_lies _ rfl _ _ 61 rfl w.heap.size 5 i5 (.int .u8 0) 1 1 Tryz.underlying61 hi hz0 hz1 hz2 rfl (by decide) s2 sd2.length (encB (dbytes sd2)) rfl (hHG.alloc _) ⟨wz.heap.size, 0, none⟩ 1 1 [.int .u8 bt] rfl rfl (fun j u hj => ?_) (by simp [Value.oneCell']) (by decide) (by unfold maxLen; omega) (by omega) (by have := HG.out.1.2.1.size; simp; omega) (wz.heap.size + 1) (by simp) ?_)
              · obtain rfl : j = 0 := by rcases j with _ | j; rfl; simp at hj
                obtain rfl : Value.int .u8 bt = u := by simpa using hj
                exact cell_of_row _ wz.heap.size 0 _ _ _ (heap_alloc_new wz _)
              rotate_left
              · obtain rfl : j = 0 := by rcases j with _ | j; rfl; simp at hj
                obtain rfl : Value.int .u8 bt = u := by simpa using hj
                exact cell_of_row _ wz.heap.size 0 _ _ _ (heap_alloc_new wz _)
              all_goals intro g cap w3 ho3 hg3 hor3 hlt3
              all_goals have HO3 := Lib.hid (And.intro ho3 (And.intro hg3 hor3))
              all_goals clear ho3 hg3 hor3
              all_goals go_wp2_with fail
              all_goals refine ⟨⟨i + 1, rr / 10, sd2 ++ [d], _, rfl, by simp, by simp, by omega, HP.out.2.1, Lib.hid ⟨?_, Or.inl (by omega), by have := HG.out.2.2; simp; omega⟩⟩, by simp only [intOf]; omega⟩
              all_goals have e8 : 9 - (i + 1) = 8 - i := by omega
              all_goals rw [e8]
              all_goals have hW := HG.out.1
              all_goals have hps := HP.out.2.2
              all_goals rw [HP.out.1] at hW hps
              all_goals exact hW.step HD.out HBT.out hps HO3.out.1 HO3.out.2.1 HO3.out.2.2
            · have hrest : lval X2 * 10 ^ (9 - i) + rr = lval X2 := by
                by_cases h9 : i = 9
                · subst h9
                  have : rr = 0 := by simpa using hrr
                  simp [this]
                · have h1 : m2 = 0 ∧ rr = 0 := by omega
                  have h2 : X2 = [] := List.length_eq_zero_iff.1 (HM2.out.symm.trans h1.1)
                  rw [h2, h1.2]; simp [lval]
              have hi0 : 0 < i := by
                rcases HG.out.2.1 with h1 | ⟨h1, h2⟩
                · exact h1
                · refine Nat.pos_of_ne_zero fun h0 => ?_
                  have h3 := HG.out.1.2.2.2.1
                  rw [hrest] at h3
                  have h4 : X2 = [] := List.length_eq_zero_iff.1 (by have := HM2.out; omega)
                  have h5 := HW.out.2.2.2.1
                  rw [h3, h2, h4] at h5
                  have h6 := normed_pos HF.out.2.2.1 HXX.out
                  rw [rdig_pos h6] at h5
                  have h7 := List.append_cancel_left h5
                  simp [lval, rdig_zero] at h7
              have hW2 := HG.out.1
              rw [hrest] at hW2
              have hms := HG.out.2.2
              have hl1 := HW.out.len
              have hl2 := hW2.len
              have HE := Lib.hid (And.intro hW2 (And.intro hl1 (And.intro hl2 (And.intro hms hi0))))
              clear hW2 hl1 hl2 hms hrest
              have hfin : (∃ (X : List Nat) (sd : List Nat) (x' s' : Value), x' = Value.slice A2 m2 c2 ∧ s' = s2 ∧ Hid (Writes (lval L) w wz x' X s' sd (lval X) ∧ Limbs X ∧ Normed X ∧ X.length ≤ n)) ∧ 1001 - lenOf s2 < 1001 - lenOf s' := by
                refine ⟨⟨X2, sd2, _, _, rfl, rfl, Lib.hid ⟨HE.out.1, HX2.out.1, HX2.out.2.1, Nat.le_trans HX2.out.2.2.2 HF.out.2.2.2⟩⟩, ?_⟩
                rw [HE.out.2.1, HE.out.2.2.1]
                have h1 := HE.out.2.2.2
                omega
              by_cases h9 : i = 9
              · subst h9
                go_wp2_with fail
                exact hfin
              · have h1 : m2 = 0 ∧ rr = 0 := by omega
                obtain ⟨rfl, rfl⟩ := h1
                go_wp2_with fail
                exact hfin
end Go.Proofs.YtejmjkeeakfodaaGreatDoor
