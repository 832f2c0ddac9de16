/- The walks of impl's isDigits, bigToGo, bigFromGo, BigNegate and BigAbs at the numeral of an integer. Conditions: what ParseInt and Itoa give. -/
import Derived.Test.YtejmjkeeakfodaaGreatDoorOpp
namespace Go.Proofs.YtejmjkeeakfodaaGreatDoor
open Go.RowKit

set_option maxRecDepth 100000 in
set_option maxHeartbeats 1000000 in
theorem isDigits_dec (w : World) (n : Nat) (hlen : (Lib.decDigits n).length ≤ 1000000) : Calls Tryz.prog 20 #[.string (str (Lib.decDigits n))] w (Plain w (.bool true)) := by
  obtain ⟨s, hs⟩ : ∃ s, s = str (Lib.decDigits n) := ⟨_, rfl⟩
  have hl : s.size = (Lib.decDigits n).length := by rw [hs, str_size]
  have hpos : 0 < s.size := by rw [hl]; exact List.length_pos_iff.2 dec_none
  have hle : s.size ≤ 1000000 := by omega
  have hget : ∀ (k : Nat) (h : k < s.size), 48 ≤ (s[k]'h).toNat ∧ (s[k]'h).toNat ≤ 57 := fun k h => by
    have h1 := get_list s k h
    rw [show s.data.toList = Lib.decDigits n by rw [hs, str_list]] at h1
    exact (dec_facts n).1 _ (List.mem_of_getElem? h1)
  have hL : s.toList = Lib.decDigits n := by rw [ByteArray.toList_eq, hs, str_list]
  have harm : (s.toList == [48]) = true ∨ ((s.toList == [48]) = false ∧ s.toList.isEmpty = false ∧ (((s[0]'hpos).toNat : Int) != 48) = true) := by
    by_cases h0 : n = 0
    · left; rw [hL, h0, dec_small (by decide)]; rfl
    · right
      refine ⟨?_, ?_, ?_⟩
      · rw [hL]
        have : Lib.decDigits n ≠ [48] := fun h => h0 (dec_zero h)
        simpa using this
      · rw [hL]
        cases h : Lib.decDigits n with
        | nil => exact absurd h dec_none
        | cons c r => rfl
      · have h1 := get_list s 0 hpos
        rw [show s.data.toList = Lib.decDigits n by rw [hs, str_list]] at h1
        have := (dec_facts n).2.2.2 h0 _ h1
        rw [bne_iff_ne]; omega
  have HG := Lib.hid hget
  rw [← hs]
  clear hs hl hget hL hlen
  rcases harm with h1 | ⟨h1, h2, h3⟩
  all_goals
    go_enter Tryz.func20, Tryz.ntmps20
    go_wp2_with fail
    go_loop [6] (fun i => ∃ k : Nat, k ≤ s.size ∧ i = .int .i64 k) (fun i => s.size - (intOf i).toNat)
    case atStart => exact ⟨0, Nat.zero_le _, rfl⟩
    case round =>
      obtain ⟨k, hk, rfl⟩ := hrel
      by_cases hlt : k < s.size
      · obtain ⟨hd1, hd2⟩ := HG.out k hlt
        obtain ⟨c, hc⟩ : ∃ c : Nat, (s[k]'hlt).toNat = c := ⟨_, rfl⟩
        rw [hc] at hd1 hd2
        have q1 : ¬ ((c : Int) < 48) := by omega
        have q2 : ¬ (57 < (c : Int)) := by omega
        go_wp2_with fail
        go_round
        case rel => exact ⟨k + 1, by omega, by go_num⟩
        case measure => simp [intOf]; omega
      · go_wp2_with fail
        go_ret
        exact ⟨rfl, rfl⟩

/-- What bigToGo gives. -/
def ToGoPost (z : Int) (w : World) (e : Ending) (w' : World) : Prop := ∃ x, e = .returned (.tuple #[x, .bool true]) ∧ Below w.heap.size w w' ∧ GoNum w' x z
set_option maxRecDepth 100000 in
set_option maxHeartbeats 1000000 in
theorem bigToGo_any {Tabs : World → Prop} (hP : ParseSaid Tabs) (w : World) (z : Int) (hlen : (Lib.itoa z).length ≤ 400) (hT : Tabs w) :
    Calls Tryz.prog 15 #[.string (str (Lib.itoa z))] w (ToGoPost z w) := by
  have HN := Lib.hid (zzToNumber_any hP w z hlen hT)
  have hld : (Lib.decDigits z.natAbs).length ≤ 1000000 := by
    by_cases h : z < 0
    · rw [itoa_lt h, List.length_cons] at hlen; omega
    · rw [itoa_ge h] at hlen
      rw [show z.natAbs = z.toNat by omega]; omega
  have HD := Lib.hid (isDigits_dec w z.natAbs hld)
  obtain ⟨s, hs⟩ : ∃ s, s = str (Lib.itoa z) := ⟨_, rfl⟩
  have hl : s.size = (Lib.itoa z).length := by rw [hs, str_size]
  have hpos : 0 < s.size := by rw [hl]; exact List.length_pos_iff.2 (itoa_ne z)
  have hle : s.size ≤ 400 := by omega
  have hemp : s.toList.isEmpty = false := by
    rw [ByteArray.toList_eq, hs, str_list]
    cases h : Lib.itoa z with
    | nil => exact absurd h (itoa_ne z)
    | cons c r => rfl
  have h0 := get_list s 0 hpos
  rw [show s.data.toList = Lib.itoa z by rw [hs, str_list]] at h0
  by_cases hz : z < 0
  · have hit := itoa_lt hz
    have h45 : (s[0]'hpos).toNat = 45 := by
      rw [hit] at h0
      have := Option.some.inj h0
      rw [← this]; rfl
    have hext : s.extract 1 s.size = str (Lib.decDigits z.natAbs) := ext_tail (c := 45) (by rw [hs, str_list, hit])
    have hne : (s.extract 1 s.size).toList = Lib.decDigits z.natAbs := by rw [hext, ByteArray.toList_eq, str_list]
    have hne48 : ((s.extract 1 s.size).toList == [48]) = false := by
      rw [hne]
      have : Lib.decDigits z.natAbs ≠ [48] := fun h => by
        have := dec_zero h
        omega
      simpa using this
    have HE := Lib.hid hext
    rw [← hext] at HD
    rw [← hs] at HN ⊢
    have h1s : 1 ≤ s.size := hpos
    clear hext hne hit hs hl h0 hlen hld hT hP hz HE
    go_enter Tryz.func15, Tryz.ntmps15
    go_wp2_with (first | (go_at_call 20; refine HD.out.mono ?_; rintro e w2 ⟨rfl, rfl⟩) | (go_at_call 21; refine HN.out.mono ?_; rintro e w3 ⟨x, rfl, hb3, hx⟩))
    go_ret2
    exact ⟨x, rfl, hb3, hx⟩
  · have hit := itoa_ge hz
    have h45 : (((s[0]'hpos).toNat : Int) == 45) = false := by
      rw [hit] at h0
      have := (dec_facts z.toNat).1 _ (List.mem_of_getElem? h0)
      rw [beq_eq_false_iff_ne]; omega
    have hsd : str (Lib.decDigits z.natAbs) = s := by rw [hs, hit]; congr 2; omega
    rw [hsd] at HD
    rw [← hs] at HN ⊢
    clear hit hs hl h0 hlen hld hT hP hz hsd
    go_enter Tryz.func15, Tryz.ntmps15
    go_wp2_with (first | (go_at_call 20; refine HD.out.mono ?_; rintro e w2 ⟨rfl, rfl⟩) | (go_at_call 21; refine HN.out.mono ?_; rintro e w3 ⟨x, rfl, hb3, hx⟩))
    go_ret2
    exact ⟨x, rfl, hb3, hx⟩

/-- The answer's cells. -/
def BigRes (w : World) (g : Nat) (cs : Array Value) : Prop := w.heap[g]? = some (.cells cs 27 (0, 0))
theorem BigRes.new (w : World) (cs : Array Value) : BigRes (w.alloc (.cells cs 27)) w.heap.size cs := heap_alloc_new w _
theorem BigRes.below {w w1 : World} {g : Nat} {cs : Array Value} (h : BigRes w g cs) (hb : Below w.heap.size w w1) : BigRes w1 g cs := (hb.block g (Array.getElem?_eq_some_iff.1 h).1).trans h
theorem BigRes.lt {w : World} {g : Nat} {cs : Array Value} (h : BigRes w g cs) : g < w.heap.size := (Array.getElem?_eq_some_iff.1 h).1
theorem BigRes.cell {w : World} {g : Nat} {cs : Array Value} (h : BigRes w g cs) (i : Nat) : w.cell? ⟨g, i, none⟩ = cs[i]? := cell_of_row w g i _ _ _ h
theorem BigRes.frozen {w : World} {g : Nat} {cs : Array Value} (h : BigRes w g cs) (i : Nat) : w.frozen? ⟨g, i, none⟩ = false := by
  unfold BigRes at h; simp [World.frozen?, h]

set_option maxRecDepth 100000 in
set_option maxHeartbeats 1000000 in
theorem bigFromGo_any {Tabs : World → Prop} (hI : ItoaSaid Tabs) (w0 w : World) (hTk : ∀ w', Below w0.heap.size w0 w' → Tabs w') (hw : Below w0.heap.size w0 w) (x : Value) (z : Int) (h : AnyNum w x z) :
    Calls Tryz.prog 16 #[x] w (SaysB w (bigOf z)) := by
  have HB1 := Lib.hid (show Below w.heap.size w (w.alloc (.cells #[.string ⟨#[]⟩, .int .i64 0] 27)) from (Below.refl _ _).alloc (Nat.le_refl _) _)
  have HR := Lib.hid (BigRes.new w #[.string ⟨#[]⟩, .int .i64 0])
  unfold bigOf
  rcases h with ⟨rfl, hz⟩ | ⟨v, rfl, hat⟩
  · have HC := Lib.hid (hI z (w.alloc (.cells #[.string ⟨#[]⟩, .int .i64 0] 27)) hz (hTk _ (hw.alloc hw.size _)))
    clear hz hI hTk hw
    go_enter Tryz.func16, Tryz.ntmps16
    go_wp2_with fail
    refine HC.out.mono ?_
    rintro e w2 ⟨rfl, hb2⟩
    have hR := HR.out.below hb2
    have k0 := hR.cell 0
    have k1 := hR.cell 1
    have f0 := hR.frozen 0
    have f1 := hR.frozen 1
    simp at k0 k1
    have HB2 := Lib.hid (HB1.out.trans (hb2.mono HB1.out.size))
    clear hR hb2 HR HB1 HC
    go_wp2_with fail
    refine bodyPost_ret (v := .agg #[.string (str (Lib.itoa z)), .int .i64 0]) (by simp [results, Tryz.results16, go_sem, k0, k1]; rfl) rfl ⟨rfl, ?_⟩
    exact (HB2.out.setCell (by simp) _).setCell (by simp) _
  · have HC := Lib.hid (string_any _ _ v z (hat.below (Below.alloc (Below.refl _ w) (Nat.le_refl _) (.cells #[.string ⟨#[]⟩, .int .i64 0] 27))))
    clear hI hTk hw
    obtain ⟨g, neg, s, L, rfl, hat⟩ := hat
    clear hat
    go_enter Tryz.func16, Tryz.ntmps16
    go_wp2_with fail
    refine HC.out.mono ?_
    rintro e w2 ⟨rfl, hb2⟩
    have hR := HR.out.below hb2
    have k0 := hR.cell 0
    have k1 := hR.cell 1
    have f0 := hR.frozen 0
    have f1 := hR.frozen 1
    simp at k0 k1
    have HB2 := Lib.hid (HB1.out.trans (hb2.mono HB1.out.size))
    clear hR hb2 HR HB1 HC
    go_wp2_with fail
    refine bodyPost_ret (v := .agg #[.string (str (Lib.itoa z)), .int .i64 0]) (by simp [results, Tryz.results16, go_sem, k0, k1]; rfl) rfl ⟨rfl, ?_⟩
    exact (HB2.out.setCell (by simp) _).setCell (by simp) _

set_option maxRecDepth 100000 in
set_option maxHeartbeats 1000000 in
theorem bigNegate_any {Tabs : World → Prop} (hP : ParseSaid Tabs) (hI : ItoaSaid Tabs) (w : World) (hTk : ∀ w', Below w.heap.size w w' → Tabs w') (z : Int) (hlen : (Lib.itoa z).length ≤ 400) :
    Calls Tryz.prog 8 #[.string (str (Lib.itoa z))] w (SaysB w (bigOf (-z))) := by
  have HB1 := Lib.hid (show Below w.heap.size w (w.alloc (.cells #[.string ⟨#[]⟩, .int .i64 0] 27)) from (Below.refl _ _).alloc (Nat.le_refl _) _)
  have HR := Lib.hid (BigRes.new w #[.string ⟨#[]⟩, .int .i64 0])
  have HT := Lib.hid (bigToGo_any hP _ z hlen (hTk _ HB1.out))
  have HF := Lib.hid (fun (w' : World) (hb : Below w.heap.size w w') (x : Value) (h : AnyNum w' x (-z)) => bigFromGo_any hI w w' hTk hb x (-z) h)
  clear hP hI hTk hlen
  unfold bigOf at HF ⊢
  generalize str (Lib.itoa z) = s at *
  generalize str (Lib.itoa (-z)) = s2 at *
  go_enter Tryz.func8, Tryz.ntmps8
  go_wp2_with fail
  refine HT.out.mono ?_
  rintro e w2 ⟨x, rfl, hb2, hx⟩
  have HR2 := Lib.hid (HR.out.below hb2)
  have HB2 := Lib.hid (HB1.out.trans (hb2.mono HB1.out.size))
  have HX := Lib.hid hx
  clear hb2 hx HR HB1 HT
  go_wp2_with fail
  refine (zzNegate_any _ _ _ HX.out).mono ?_
  rintro e w3 ⟨y, rfl, hb3, hy⟩
  have HR3 := Lib.hid (HR2.out.below hb3)
  have HB3 := Lib.hid (HB2.out.trans (hb3.mono HB2.out.size))
  have HY := Lib.hid hy
  clear hb3 hy HR2 HB2 HX
  go_wp2_with fail
  refine (HF.out _ HB3.out _ HY.out).mono ?_
  rintro e w4 ⟨rfl, hb4⟩
  have hR := HR3.out.below hb4
  have k0 := hR.cell 0
  have k1 := hR.cell 1
  have f0 := hR.frozen 0
  have f1 := hR.frozen 1
  simp at k0 k1
  have HB4 := Lib.hid (HB3.out.trans (hb4.mono HB3.out.size))
  clear hR hb4 HR3 HB3 HY HF
  go_wp2_with fail
  refine bodyPost_ret (v := .agg #[.string s2, .int .i64 0]) (by simp [results, Tryz.results8, go_sem, k0, k1]) rfl ⟨rfl, ?_⟩
  exact (HB4.out.setCell (by simp) _).setCell (by simp) _

set_option maxRecDepth 100000 in
set_option maxHeartbeats 1000000 in
theorem bigAbs_any {Tabs : World → Prop} (hP : ParseSaid Tabs) (hI : ItoaSaid Tabs) (w : World) (hTk : ∀ w', Below w.heap.size w w' → Tabs w') (z : Int) (hlen : (Lib.itoa z).length ≤ 400) :
    Calls Tryz.prog 9 #[.string (str (Lib.itoa z))] w (SaysB w (bigOf (z.natAbs : Int))) := by
  have HB1 := Lib.hid (show Below w.heap.size w (w.alloc (.cells #[.string ⟨#[]⟩, .int .i64 0] 27)) from (Below.refl _ _).alloc (Nat.le_refl _) _)
  have HR := Lib.hid (BigRes.new w #[.string ⟨#[]⟩, .int .i64 0])
  have HT := Lib.hid (bigToGo_any hP _ z hlen (hTk _ HB1.out))
  have HF := Lib.hid (fun (w' : World) (hb : Below w.heap.size w w') (x : Value) (h : AnyNum w' x (z.natAbs : Int)) => bigFromGo_any hI w w' hTk hb x (z.natAbs : Int) h)
  clear hP hI hTk hlen
  unfold bigOf at HF ⊢
  generalize str (Lib.itoa z) = s at *
  generalize str (Lib.itoa (z.natAbs : Int)) = s2 at *
  go_enter Tryz.func9, Tryz.ntmps9
  go_wp2_with fail
  refine HT.out.mono ?_
  rintro e w2 ⟨x, rfl, hb2, hx⟩
  have HR2 := Lib.hid (HR.out.below hb2)
  have HB2 := Lib.hid (HB1.out.trans (hb2.mono HB1.out.size))
  have HX := Lib.hid hx
  clear hb2 hx HR HB1 HT
  go_wp2_with fail
  refine (zzAbs_any _ _ _ HX.out).mono ?_
  rintro e w3 ⟨y, rfl, hb3, hy⟩
  have HR3 := Lib.hid (HR2.out.below hb3)
  have HB3 := Lib.hid (HB2.out.trans (hb3.mono HB2.out.size))
  have HY := Lib.hid hy
  clear hb3 hy HR2 HB2 HX
  go_wp2_with fail
  refine (HF.out _ HB3.out _ HY.out).mono ?_
  rintro e w4 ⟨rfl, hb4⟩
  have hR := HR3.out.below hb4
  have k0 := hR.cell 0
  have k1 := hR.cell 1
  have f0 := hR.frozen 0
  have f1 := hR.frozen 1
  simp at k0 k1
  have HB4 := Lib.hid (HB3.out.trans (hb4.mono HB3.out.size))
  clear hR hb4 HR3 HB3 HY HF
  go_wp2_with fail
  refine bodyPost_ret (v := .agg #[.string s2, .int .i64 0]) (by simp [results, Tryz.results9, go_sem, k0, k1]) rfl ⟨rfl, ?_⟩
  exact (HB4.out.setCell (by simp) _).setCell (by simp) _
end Go.Proofs.YtejmjkeeakfodaaGreatDoor
