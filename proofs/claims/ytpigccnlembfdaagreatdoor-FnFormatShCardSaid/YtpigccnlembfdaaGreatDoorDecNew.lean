/- The walk of newDecimal: a whole number as a decimal. Conditions: as the theorem states. -/
import Derived.Test.YtpigccnlembfdaaGreatDoorDigAt
import Derived.Lib.ConvBytes
import Derived.Lib.AtoiErrMem
namespace Go.Proofs.YtpigccnlembfdaaGreatDoor
open Go.RowKit

def encN (l : List Nat) : List Value := l.map fun d : Nat => Value.int .u8 (d : Int)
theorem encN_append (a b : List Nat) : encN (a ++ b) = encN a ++ encN b := by simp [encN]
theorem digAt_own {w : World} {base : Nat} {v : Value} {l : List Nat} (h : w.ownsRow base 5 1 v l.length (encN l)) : DigAt w v l ∧ ∀ g, v.ownBlock = some g → base ≤ g := by
  rcases h.2 with ⟨rfl, h0⟩ | ⟨g, cap, cur, rfl, hb, hg, h1, _⟩
  · have e : l = [] := List.length_eq_zero_iff.1 h0
    subst e
    exact ⟨digAt_nil w, fun g hg => by cases hg⟩
  · refine ⟨⟨_, cap, rfl, h1, fun _ => ⟨g, rfl, (Array.getElem?_eq_some_iff.1 hg).1, fun i a ha => ?_⟩⟩, fun g' hg' => ?_⟩
    · have := h.cells rfl i (.int .u8 a) (by simp [encN, ha])
      rwa [show (⟨g, 0, none⟩ : Addr).add i = ⟨g, i, none⟩ by unfold Addr.add; split <;> simp_all] at this
    · simp only [Value.ownBlock, Option.some.injEq] at hg'
      omega
theorem DecV.trimN {ds : List Nat} {dp : Int} {A B : Nat} : ∀ z : Nat, DecV (ds ++ List.replicate z 0) dp A B → DecV ds dp A B
  | 0, h => by simpa using h
  | z + 1, h => by
    rw [List.replicate_succ', ← List.append_assoc] at h
    exact DecV.trimN z h.trim
theorem info_u8 : (Tryz.prog.info? 5).map (fun i => (i.zero, i.size, i.bytes)) = some (some (.int .u8 0), 1, 1) := by kernel_rfl
/-- A decimal that has been made: without a zero at either end, worth A / B. -/
def MadeDec (A B : Nat) (w : World) (e : Ending) (w' : World) : Prop := ∃ p L dp v, e = .returned (.pointer (some ⟨p, 0, none⟩)) ∧ Below w.heap.size w w' ∧ w.heap.size ≤ p ∧ DecAt w' p L dp v ∧ Dm L dp A B ∧ L.length ≤ 20 ∧ dp ≤ 1000 ∧ -1000 ≤ dp ∧ ∀ g, v.ownBlock = some g → w.heap.size ≤ g
theorem grown_more {w0 w1 w2 : World} {D : Nat} {row : Option Nat} (h : w0.grownBy w1 (some D)) (h2 : w1.grownBy w2 row) (hr : ∀ k, row = some k → w0.heap.size ≤ k ∨ k = D) : w0.grownBy w2 (some D) :=
  ⟨h2.os.trans h.os, h2.tape.trans h.tape, h2.output.trans h.output, Nat.le_trans h.size h2.size, fun b hb hne =>
    (h2.block b (Nat.lt_of_lt_of_le hb h.size) (fun e => by
      rcases hr b e.symm with h3 | h3
      · omega
      · exact hne (by rw [h3]))).trans (h.block b hb hne)⟩
/-- What holds at each digit: w3 is the world at the loop, D the decimal. -/
structure ND (w3 wr : World) (D : Nat) (L : List Nat) (k : Nat) (v : Value) : Prop where
  grown : w3.grownBy wr (some D)
  box : DBox wr D v 0
  own : wr.ownsRow w3.heap.size 5 1 v k (encN (L.take k))
theorem take_snocD (l : List Nat) (k : Nat) (y : Nat) (h : l[k]? = some y) : l.take (k + 1) = l.take k ++ [y] := by
  obtain ⟨hlt, rfl⟩ := List.getElem?_eq_some_iff.1 h
  rw [List.take_add_one, List.getElem?_eq_getElem hlt]; rfl
theorem ND.step {w3 wr w5 : World} {D k g cap d : Nat} {L : List Nat} {v : Value} {o : Obj} (h : ND w3 wr D L k v) (hD : D < w3.heap.size) (hd : L[k]? = some d)
    (hown : w5.ownsRow w3.heap.size 5 1 (.slice (some ⟨g, 0, none⟩) (k + 1) cap) (k + 1) (encN (L.take k) ++ [Value.int .u8 d])) (hg : (wr.alloc o).grownBy w5 v.ownBlock) :
    ND w3 (w5.setCell ⟨D, 0, none⟩ (.slice (some ⟨g, 0, none⟩) (k + 1) cap)) D L (k + 1) (.slice (some ⟨g, 0, none⟩) (k + 1) cap) := by
  have hol := h.own.lt
  have hgl := hown.lt g rfl
  have h1 : w3.grownBy (wr.alloc o) (some D) := grown_more h.grown (grown_of_below ((Below.refl _ wr).alloc (Nat.le_refl _) o) none) (fun k hk => by cases hk)
  have h2 : w3.grownBy w5 (some D) := grown_more h1 hg (fun k hk => Or.inl (hol k hk).1)
  have hb : DBox w5 D v 0 := (h.box.below ((Below.refl _ wr).alloc (Nat.le_refl _) o)).keep hg (fun e => by have := (hol D e.symm).1; omega)
  refine ⟨h2.trans (grown_cell _ _ _ _), hb.set0 _, ?_⟩
  rw [take_snocD L k d hd, encN_append]
  exact hown.kept (grown_cell w5 D 0 _) (Or.inr (by simp [Value.ownBlock]; omega))
set_option maxRecDepth 100000 in
set_option maxHeartbeats 2000000 in
theorem newDecimal_any (w : World) (M : Nat) (hM0 : M ≠ 0) (hM : M < 18446744073709551616) :
    Calls Tryz.prog 116 #[.int .u64 M] w (MadeDec M 1 w) := by
  have HF := Lib.hid (fun w' => formatUint_any w' M hM)
  have hD := digN_map hM0
  have HL20 : Hid ((Lib.decDigits M).length ≤ 20) := Lib.hid (dec_length 19 M (by omega))
  go_enter Tryz.func116, Tryz.ntmps116
  go_wp2_with fail
  refine (HF.out _).mono ?_
  rintro e w2 ⟨rfl, hb2⟩
  obtain ⟨S, hS⟩ : ∃ S, S = strL (Lib.decDigits M) := ⟨_, rfl⟩
  have hSs : S.size = (digN M).length := by rw [hS, strL_size, ← hD, List.length_map]
  have hS20 : S.size ≤ 20 := by rw [hS, strL_size]; exact HL20.out
  have hcv := Lib.run_convert_string_bytes (P := Tryz.prog) w2 9 72 5 S Tryz.underlying9 Tryz.underlying72 Tryz.underlying5
  have hbw := Lib.bytesWorld_below w2 5 S
  have hcell : ∀ (k d : Nat), (digN M)[k]? = some d → (Lib.bytesWorld w2 5 S).cell? ⟨w2.heap.size, k, none⟩ = some (.int .u8 ((48 + d : Nat) : Int)) := fun k d hd => by
    have hk : k < S.size := by rw [hSs]; exact (List.getElem?_eq_some_iff.1 hd).1
    rw [Lib.bytesWorld_cell w2 _ S k hk]
    have h1 : S.data.toList[k]? = some (dByte d) := by rw [hS, strL_list, ← hD, List.getElem?_map, hd]; rfl
    rw [List.getD_eq_getElem?_getD, h1]
    have := dByte_nat (digN_ten M d (List.mem_of_getElem? hd))
    show some (Value.int .u8 (((dByte d).toNat : Nat) : Int)) = _
    rw [this]
  rw [← hS]
  have hbx : DBox (w.alloc (.cells #[.slice none 0 0, .int .i64 0] 183)) w.heap.size (.slice none 0 0) 0 := heap_alloc_new w _
  have hB1 : Below w.heap.size w (w.alloc (.cells #[.slice none 0 0, .int .i64 0] 183)) := (Below.refl _ _).alloc (Nat.le_refl _) _
  have hb3 := hb2.trans (hbw.mono hb2.size)
  have hbx3 := hbx.below hb3
  have hB3 := hB1.trans (hb3.mono hB1.size)
  have hs3 := hbw.size
  have hsz2 := hb2.size
  rw [World.size_alloc] at hsz2
  obtain ⟨bs, hbs⟩ : ∃ bs, bs = w2.heap.size := ⟨_, rfl⟩
  rw [← hbs] at hcv hcell hsz2
  obtain ⟨cp, hcp⟩ : ∃ cp, cp = grownCap w2 S.size 0 5 := ⟨_, rfl⟩
  rw [← hcp] at hcv
  obtain ⟨n, hn⟩ : ∃ n, n = S.size := ⟨_, rfl⟩
  have hbslt : bs < (Lib.bytesWorld w2 5 S).heap.size := by rw [Lib.bytesWorld_size, hbs]; omega
  rw [← hn] at hcv hSs hS20
  have HCELL := Lib.hid hcell
  have HBX3 := Lib.hid hbx3
  have HB3 := Lib.hid hB3
  have HSS := Lib.hid hSs
  have HSZ := Lib.hid (And.intro hsz2 hbslt)
  clear hcell hbx hbx3 hB3 hB1 hb3 hs3 hbw hS hD hbs hcp hSs hsz2 hb2 hbslt hn
  obtain ⟨i5, hi, he⟩ := Option.map_eq_some_iff.1 info_u8
  have hz0 : i5.zero = some (.int .u8 0) := congrArg (·.1) he
  have hz1 : i5.size = 1 := congrArg (·.2.1) he
  have hz2 : i5.bytes = 1 := congrArg (·.2.2) he
  have HI := Lib.hid (And.intro hi (And.intro hz0 (And.intro hz1 hz2)))
  clear hi he hz0 hz1 hz2
  go_wp2_with fail
  generalize Lib.bytesWorld w2 5 S = w3 at *
  clear hcv
  have hDw : w.heap.size < w3.heap.size := by have := HSZ.out; omega
  go_loopw [10] (fun iv wr => ∃ (k : Nat) (v : Value), k ≤ n ∧ iv = .int .i64 k ∧ Hid (ND w3 wr w.heap.size (digN M) k v)) (fun iv _ => n - (intOf iv).toNat)
  case atStart => exact ⟨0, .slice none 0 0, Nat.zero_le _, rfl, Lib.hid ⟨⟨rfl, rfl, rfl, Nat.le_refl _, fun _ _ _ => rfl⟩, HBX3.out, World.ownsRow_nil _ _ _ _⟩⟩
  case round =>
    obtain ⟨k, v, hk, rfl, HK⟩ := hrel
    have c0 := HK.out.box.cell0
    have f0 := HK.out.box.frozen 0
    have hlt0 := HK.out.box.lt
    by_cases hlt : k < n
    · obtain ⟨d, hd⟩ : ∃ d, (digN M)[k]? = some d := ⟨_, List.getElem?_eq_getElem (by have := HSS.out; omega)⟩
      have hd10 := digN_ten M d (List.mem_of_getElem? hd)
      have d0 : wr.cell? ⟨bs, k, none⟩ = some (.int .u8 ((48 + d : Nat) : Int)) := (World.cell?_of_block (HK.out.grown.block bs HSZ.out.2 (fun e => by have := HSZ.out.1; injection e with e; omega))).trans (HCELL.out k d hd)
      obtain ⟨cb, hcb⟩ : ∃ cb : Nat, cb = 48 + d := ⟨_, rfl⟩
      rw [← hcb] at d0
      have hcd : (cb : Int) - 48 = (d : Int) := by omega
      have hcb2 : cb ≤ 57 := by omega
      have hcb1 : 48 ≤ cb := by omega
      have HD := Lib.hid hd
      have hown := HK.out.own
      have hkl : k ≤ 20 := by omega
      have hszr := HK.out.grown.size
      obtain ⟨hi, hz0, hz1, hz2⟩ := HI.out
      clear hd hcb
      have hvshape : ∃ A c, v = .slice A k c := by
        rcases hown.2 with ⟨hv, h0⟩ | ⟨g, cap, cur, hv, _⟩
        · exact ⟨none, 0, by rw [hv, h0]⟩
        · exact ⟨_, cap, hv⟩
      obtain ⟨A, c, rfl⟩ := hvshape
      go_wp2_with (at_builtin; refine wpList_append_lies _ rfl _ _ 72 rfl w3.heap.size 5 i5 (.int .u8 0) 1 1 Tryz.underlying72 hi hz0 hz1 hz2 rfl (by decide) (.slice A k c) k (encN ((digN M).take k)) rfl (hown.alloc _) ⟨wr.heap.size, 0, none⟩ 1 1 [.int .u8 d] rfl rfl (fun j u hj => ?_) (by simp [Value.oneCell']) (by decide) (by unfold maxLen; omega) (by omega) (by simp; omega) (wr.heap.size + 1) (by simp) ?_)
      · obtain rfl : j = 0 := by rcases j with _ | j; rfl; simp at hj
        obtain rfl : Value.int .u8 d = u := by simpa using hj
        exact cell_of_row _ wr.heap.size 0 _ _ _ (heap_alloc_new wr _)
      intro g cap w5 hown5 hg5 _ hlt5
      have hS5 := ND.step HK.out hDw HD.out hown5 hg5
      have hb5 : DBox w5 w.heap.size (.slice A k c) 0 := (HK.out.box.below ((Below.refl _ wr).alloc (Nat.le_refl _) _)).keep hg5 (fun e => by have := (hown.lt _ e.symm).1; omega)
      have c5 := hb5.cell0
      have f5 := hb5.frozen 0
      have hl5 := hb5.lt
      have HS5 := Lib.hid hS5
      clear hS5 hown5 hg5 hb5 hlt5
      go_wp2_with fail
      go_roundw
      case rel => exact ⟨k + 1, _, by omega, by go_num, HS5⟩
      case measure => simp [intOf]; omega
    · clear c0 f0
      have hkn : k = n := by omega
      have hND := HK.out
      rw [hkn, HSS.out] at hND
      have hown := hND.own
      rw [List.take_length] at hown
      obtain ⟨hdig, hob⟩ := digAt_own hown
      obtain ⟨A, c, rfl⟩ := hdig.shape
      have hbx := hND.box.set1 ((digN M).length : Int)
      have hgrow := (hND.grown.trans (grown_cell wr w.heap.size 1 (.int .i64 ((digN M).length : Int))))
      have hdig2 := hdig.grown (grown_cell wr w.heap.size 1 (.int .i64 ((digN M).length : Int))) (fun _ g hg e => by have := hob g hg; injection e; omega)
      have hDec : DecAt (wr.setCell ⟨w.heap.size, 1, none⟩ (.int .i64 ((digN M).length : Int))) w.heap.size (digN M) (digN M).length (.slice A (digN M).length c) := ⟨hbx, hdig2, fun _ g hg e => by have := hob g hg; omega⟩
      have hT := trim_any _ _ _ _ _ hDec (by have := HSS.out; omega)
      have c0 := hND.box.cell0
      have c1 := hND.box.cell1
      have f1 := hND.box.frozen 1
      have HT := Lib.hid hT
      have HG := Lib.hid hgrow
      have HOB := Lib.hid hob
      clear hT hDec hdig2 hgrow hbx hdig hown hob hND HK
      rw [← HSS.out] at c0 HT HOB HG
      go_wp2_with fail
      refine HT.out.mono ?_
      rintro e w6 ⟨rfl, hg6, j, v', hj, hL, hla, hob', hdec⟩
      have HG6 := Lib.hid (HG.out.trans hg6)
      have HE := Lib.hid (And.intro hj (And.intro hL (And.intro hla (And.intro hob' hdec))))
      clear hg6 hj hL hla hob' hdec
      go_wp2_with fail
      go_ret
      obtain ⟨hj, hL, hla, hob', hdec⟩ := HE.out
      have hgr := HG6.out
      have hne : (digN M).take j ≠ [] := by
        intro e
        rw [e, List.nil_append] at hL
        have h1 := digN_num M
        rw [hL] at h1
        have h2 : ∀ z : Nat, num (List.replicate z 0) = 0 := fun z => by
          induction z with
          | zero => rfl
          | succ z ih => rw [List.replicate_succ', num_snoc, ih]
        rw [h2] at h1
        exact hM0 h1.symm
      rw [if_neg hne] at hdec
      have hl20 : ((digN M).take j).length ≤ 20 := by rw [List.length_take]; have := HSS.out; omega
      refine ⟨w.heap.size, (digN M).take j, _, v', rfl, ?_, Nat.le_refl _, hdec, ⟨fun d hd => digN_ten M d (List.mem_of_mem_take hd), fun d hd => ?_, hla, hne, ?_⟩, hl20, ?_, ?_, fun g hg => ?_⟩
      · exact HB3.out.grown hgr HB3.out.size (fun k hk => by injection hk; omega)
      · refine digN_headed M d ?_
        rwa [List.getElem?_take_of_lt (by
          have := List.length_pos_iff.2 hne
          rw [List.length_take] at this; omega)] at hd
      · have := DecV.whole M
        rw [hL] at this
        have h3 := this.trimN
        rw [← hL, ← HSS.out] at h3
        exact h3
      · have := HSS.out; omega
      · omega
      · rw [hob'] at hg
        have := HOB.out g hg
        have := HSZ.out
        omega
end Go.Proofs.YtpigccnlembfdaaGreatDoor
