/- The walk of formatJoin at any elements: scalars and strings are joined; at a list or a map it is an error. Conditions: as the theorem states. -/
import Derived.Test.YtpigccnlembfdaaGreatDoorMarshal
namespace Go.Proofs.YtpigccnlembfdaaGreatDoor
open Go.RowKit

/-- An element that has a text. -/
inductive Item : Value → List UInt8 → Prop where
  | nil : Item .nilIface [110, 117, 108, 108]
  | no : Item (.iface 4 (.bool false)) [102, 97, 108, 115, 101]
  | yes : Item (.iface 4 (.bool true)) [116, 114, 117, 101]
  | int (x : Int) (h0 : -9223372036854775808 < x) (h1 : x < 9223372036854775808) : Item (.iface 3 (.int .i64 x)) (Lib.itoa x)
  | half (h : Int) (ho : h % 2 = 1) (h1 : -9007199254740992 < h) (h2 : h < 9007199254740992) : Item (.iface 65 (.float .f64 (hbits h))) (halfText h)
  | str (s : ByteArray) (hs : s.size ≤ 1000000) : Item (.iface 9 (.string s)) (shq s.data.toList)
/-- An element that has none. -/
inductive Bad : Value → Prop where
  | list (v : Value) : Bad (.iface 66 v)
  | map (v : Value) : Bad (.iface 69 v)
theorem half_len (h : Int) (h1 : -9007199254740992 < h) (h2 : h < 9007199254740992) : (halfText h).length ≤ 64 := by
  unfold halfText
  have := whole_len (N := h.natAbs / 2) (by omega)
  rw [List.length_append, List.length_append]
  split <;> simp <;> omega
theorem Item.len {u : Value} {t : List UInt8} (h : Item u t) : t.length ≤ 4000002 := by
  cases h with
  | nil => decide
  | no => decide
  | yes => decide
  | int x h0 h1 => have := itoa_len x h0 h1; omega
  | half h ho h1 h2 => have := half_len h h1 h2; omega
  | str s hs =>
    have h1 := shq_length s.data.toList
    have h2 : s.data.toList.length = s.size := by simp
    omega
theorem joinB (ts : List (List UInt8)) (h : ∀ t ∈ ts, t.length ≤ 4000002) : (Lib.join ts [32]).length ≤ ts.length * 4000003 := join_length ts 4000002 h
/-- What formatJoin leaves. -/
def JoinPost (n : Nat) (ts : List (List UInt8)) (w : World) (e : Ending) (w' : World) : Prop := Below w.heap.size w w' ∧
  ((ts.length = n ∧ e = .returned (.iface 9 (.string (strL (Lib.join ts [32]))))) ∨ (ts.length < n ∧ ∃ p, e = .returned (.iface 129 (.pointer (some p)))))
set_option maxRecDepth 100000 in
set_option maxHeartbeats 8000000 in
theorem join_items (w : World) (A : Option Addr) (c : Nat) (us : List Value) (ts : List (List UInt8)) (hn : us.length ≤ 1000) (htl : ts.length ≤ us.length)
    (hit : ∀ (i : Nat) (t : List UInt8), ts[i]? = some t → ∃ u, us[i]? = some u ∧ Item u t) (hend : ts.length = us.length ∨ ∃ u, us[ts.length]? = some u ∧ Bad u)
    (hcells : ∀ (i : Nat) (u : Value), us[i]? = some u → ∃ ad, A = some ad ∧ ad.block < w.heap.size ∧ w.cell? (ad.add i) = some u) :
    Calls Tryz.prog 60 #[.string ⟨#[115, 104]⟩, .iface 66 (.slice A us.length c), .string ⟨#[32]⟩, .func (.func 61) #[] #[]] w (JoinPost us.length ts w) := by
  have hjb := joinB ts (fun t ht => by
    obtain ⟨i, hi, rfl⟩ := List.mem_iff_getElem.1 ht
    obtain ⟨u, _, h⟩ := hit i _ (List.getElem?_eq_getElem hi)
    exact h.len)
  obtain ⟨n, hnn⟩ : ∃ n, n = us.length := ⟨_, rfl⟩
  obtain ⟨m, hmm⟩ : ∃ m, m = ts.length := ⟨_, rfl⟩
  rw [← hnn] at hn htl hend ⊢
  rw [← hmm] at htl hend
  have hmk := fun W : World => run_make_row' (P := Tryz.prog) 24 9 (.string ⟨#[]⟩) 16 Tryz.underlying24 info_strT rfl .i64 .i64 n (by omega) (by omega) W
  have HCE := Lib.hid hcells
  have HIT := Lib.hid hit
  have HEND := Lib.hid hend
  have HN := Lib.hid hnn
  have HMM := Lib.hid hmm
  have HJB := Lib.hid hjb
  clear hcells hit hnn hjb hend hmm
  go_enter Tryz.func60, Tryz.ntmps60
  go_wp2_with fail
  go_loopw [36] (fun i wr => ∃ k : Nat, k ≤ n ∧ k ≤ m ∧ i = .int .i64 k ∧ Below w.heap.size w wr ∧ OutS wr w.heap.size ((ts.take k).map fun t => Value.string (strL t)) (n - k)) (fun i _ => n - (intOf i).toNat)
  case atStart =>
    refine ⟨0, Nat.zero_le _, Nat.zero_le _, rfl, (Below.refl _ _).alloc (Nat.le_refl _) _, ?_⟩
    have := heap_alloc_new w (.cells (madeCells #[Value.string ⟨#[]⟩] n) 9)
    rw [made_str] at this ⊢
    simpa [OutS] using this
  case round =>
    obtain ⟨k, hk, hkm, rfl, hbw, hout⟩ := hrel
    by_cases hlt : k < n
    · obtain ⟨u, hu⟩ : ∃ u, us[k]? = some u := ⟨_, List.getElem?_eq_getElem (by rw [← HN.out]; exact hlt)⟩
      obtain ⟨ad, rfl, had, hcu⟩ := HCE.out k u hu
      have d0 : wr.cell? (ad.add k) = some u := (hbw.cell (by rw [block_of_add]; exact had)).trans hcu
      by_cases hkt : k < m
      · obtain ⟨t, ht⟩ : ∃ t, ts[k]? = some t := ⟨_, List.getElem?_eq_getElem (by rw [← HMM.out]; exact hkt)⟩
        obtain ⟨u', hu', hitem⟩ := HIT.out k t ht
        obtain rfl : u = u' := Option.some.inj (hu.symm.trans hu')
        have hmt : m = ts.length := HMM.out
        have HK := Lib.hid ht
        have HOUT := Lib.hid hout
        have HB := Lib.hid hbw
        have hgw := hout.lt
        clear ht hu hu' hcu hout hbw
        cases hitem with
        | nil =>
          obtain ⟨t, htt⟩ : ∃ t : List UInt8, t = [110, 117, 108, 108] := ⟨_, rfl⟩
          have HM := Lib.hid (fun W => marshal_nil W)
          rw [← htt] at HM HK
          clear htt
          go_wp2_with fail
          refine (HM.out _).mono ?_
          rintro e w2 ⟨rfl, hb2⟩
          obtain ⟨r, hr⟩ : ∃ r, n - k = r + 1 := ⟨n - k - 1, by omega⟩
          have ho2 := HOUT.out.below hb2
          rw [hr] at ho2
          have hlen : ((ts.take k).map fun t => Value.string (strL t)).length = k := by rw [List.length_map, List.length_take]; omega
          have hcell := ho2.cell
          have hfroz := ho2.frozen ((ts.take k).map fun t => Value.string (strL t)).length
          have hset := ho2.set (.string (strL t))
          rw [hlen] at hcell hfroz hset
          have hlt2 := ho2.lt
          have HSET := Lib.hid hset
          have HR := Lib.hid hr
          have HB2 := Lib.hid (HB.out.trans (hb2.mono HB.out.size))
          clear hset hr ho2 hb2 hlen
          skip
          go_wp2_with fail
          all_goals go_roundw
          all_goals first
            | (refine ⟨k + 1, by omega, by omega, by go_num, HB2.out.setCell (by simp) _, ?_⟩
               have h1 := HSET.out
               have e : ts.take (k + 1) = ts.take k ++ [t] := by
                 obtain ⟨hl, rfl⟩ := List.getElem?_eq_some_iff.1 HK.out
                 rw [List.take_add_one, List.getElem?_eq_getElem hl]; rfl
               rw [e, List.map_append, show n - (k + 1) = r by have := HR.out; omega]
               exact h1)
            | (simp [intOf]; omega)
        | no =>
          obtain ⟨t, htt⟩ : ∃ t : List UInt8, t = [102, 97, 108, 115, 101] := ⟨_, rfl⟩
          have HM := Lib.hid (fun W => (show Calls Tryz.prog 79 #[.iface 4 (.bool false)] W (TextIs [102, 97, 108, 115, 101] W) from marshal_bool W false))
          rw [← htt] at HM HK
          clear htt
          go_wp2_with fail
          refine (HM.out _).mono ?_
          rintro e w2 ⟨rfl, hb2⟩
          obtain ⟨r, hr⟩ : ∃ r, n - k = r + 1 := ⟨n - k - 1, by omega⟩
          have ho2 := HOUT.out.below hb2
          rw [hr] at ho2
          have hlen : ((ts.take k).map fun t => Value.string (strL t)).length = k := by rw [List.length_map, List.length_take]; omega
          have hcell := ho2.cell
          have hfroz := ho2.frozen ((ts.take k).map fun t => Value.string (strL t)).length
          have hset := ho2.set (.string (strL t))
          rw [hlen] at hcell hfroz hset
          have hlt2 := ho2.lt
          have HSET := Lib.hid hset
          have HR := Lib.hid hr
          have HB2 := Lib.hid (HB.out.trans (hb2.mono HB.out.size))
          clear hset hr ho2 hb2 hlen
          skip
          go_wp2_with fail
          all_goals go_roundw
          all_goals first
            | (refine ⟨k + 1, by omega, by omega, by go_num, HB2.out.setCell (by simp) _, ?_⟩
               have h1 := HSET.out
               have e : ts.take (k + 1) = ts.take k ++ [t] := by
                 obtain ⟨hl, rfl⟩ := List.getElem?_eq_some_iff.1 HK.out
                 rw [List.take_add_one, List.getElem?_eq_getElem hl]; rfl
               rw [e, List.map_append, show n - (k + 1) = r by have := HR.out; omega]
               exact h1)
            | (simp [intOf]; omega)
        | yes =>
          obtain ⟨t, htt⟩ : ∃ t : List UInt8, t = [116, 114, 117, 101] := ⟨_, rfl⟩
          have HM := Lib.hid (fun W => (show Calls Tryz.prog 79 #[.iface 4 (.bool true)] W (TextIs [116, 114, 117, 101] W) from marshal_bool W true))
          rw [← htt] at HM HK
          clear htt
          go_wp2_with fail
          refine (HM.out _).mono ?_
          rintro e w2 ⟨rfl, hb2⟩
          obtain ⟨r, hr⟩ : ∃ r, n - k = r + 1 := ⟨n - k - 1, by omega⟩
          have ho2 := HOUT.out.below hb2
          rw [hr] at ho2
          have hlen : ((ts.take k).map fun t => Value.string (strL t)).length = k := by rw [List.length_map, List.length_take]; omega
          have hcell := ho2.cell
          have hfroz := ho2.frozen ((ts.take k).map fun t => Value.string (strL t)).length
          have hset := ho2.set (.string (strL t))
          rw [hlen] at hcell hfroz hset
          have hlt2 := ho2.lt
          have HSET := Lib.hid hset
          have HR := Lib.hid hr
          have HB2 := Lib.hid (HB.out.trans (hb2.mono HB.out.size))
          clear hset hr ho2 hb2 hlen
          skip
          go_wp2_with fail
          all_goals go_roundw
          all_goals first
            | (refine ⟨k + 1, by omega, by omega, by go_num, HB2.out.setCell (by simp) _, ?_⟩
               have h1 := HSET.out
               have e : ts.take (k + 1) = ts.take k ++ [t] := by
                 obtain ⟨hl, rfl⟩ := List.getElem?_eq_some_iff.1 HK.out
                 rw [List.take_add_one, List.getElem?_eq_getElem hl]; rfl
               rw [e, List.map_append, show n - (k + 1) = r by have := HR.out; omega]
               exact h1)
            | (simp [intOf]; omega)
        | int x h0 h1 =>
          obtain ⟨t, htt⟩ : ∃ t, t = Lib.itoa x := ⟨_, rfl⟩
          have HM := Lib.hid (fun W => marshal_int W x h0 h1)
          rw [← htt] at HM HK
          clear htt
          go_wp2_with fail
          refine (HM.out _).mono ?_
          rintro e w2 ⟨rfl, hb2⟩
          obtain ⟨r, hr⟩ : ∃ r, n - k = r + 1 := ⟨n - k - 1, by omega⟩
          have ho2 := HOUT.out.below hb2
          rw [hr] at ho2
          have hlen : ((ts.take k).map fun t => Value.string (strL t)).length = k := by rw [List.length_map, List.length_take]; omega
          have hcell := ho2.cell
          have hfroz := ho2.frozen ((ts.take k).map fun t => Value.string (strL t)).length
          have hset := ho2.set (.string (strL t))
          rw [hlen] at hcell hfroz hset
          have hlt2 := ho2.lt
          have HSET := Lib.hid hset
          have HR := Lib.hid hr
          have HB2 := Lib.hid (HB.out.trans (hb2.mono HB.out.size))
          clear hset hr ho2 hb2 hlen
          skip
          go_wp2_with fail
          all_goals go_roundw
          all_goals first
            | (refine ⟨k + 1, by omega, by omega, by go_num, HB2.out.setCell (by simp) _, ?_⟩
               have h1 := HSET.out
               have e : ts.take (k + 1) = ts.take k ++ [t] := by
                 obtain ⟨hl, rfl⟩ := List.getElem?_eq_some_iff.1 HK.out
                 rw [List.take_add_one, List.getElem?_eq_getElem hl]; rfl
               rw [e, List.map_append, show n - (k + 1) = r by have := HR.out; omega]
               exact h1)
            | (simp [intOf]; omega)
        | half h ho h1 h2 =>
          obtain ⟨t, htt⟩ : ∃ t, t = halfText h := ⟨_, rfl⟩
          have HM := Lib.hid (fun W => marshal_half W h ho h1 h2)
          rw [← htt] at HM HK
          clear htt
          go_wp2_with fail
          refine (HM.out _).mono ?_
          rintro e w2 ⟨rfl, hb2⟩
          obtain ⟨r, hr⟩ : ∃ r, n - k = r + 1 := ⟨n - k - 1, by omega⟩
          have ho2 := HOUT.out.below hb2
          rw [hr] at ho2
          have hlen : ((ts.take k).map fun t => Value.string (strL t)).length = k := by rw [List.length_map, List.length_take]; omega
          have hcell := ho2.cell
          have hfroz := ho2.frozen ((ts.take k).map fun t => Value.string (strL t)).length
          have hset := ho2.set (.string (strL t))
          rw [hlen] at hcell hfroz hset
          have hlt2 := ho2.lt
          have HSET := Lib.hid hset
          have HR := Lib.hid hr
          have HB2 := Lib.hid (HB.out.trans (hb2.mono HB.out.size))
          clear hset hr ho2 hb2 hlen
          skip
          go_wp2_with fail
          all_goals go_roundw
          all_goals first
            | (refine ⟨k + 1, by omega, by omega, by go_num, HB2.out.setCell (by simp) _, ?_⟩
               have h1 := HSET.out
               have e : ts.take (k + 1) = ts.take k ++ [t] := by
                 obtain ⟨hl, rfl⟩ := List.getElem?_eq_some_iff.1 HK.out
                 rw [List.take_add_one, List.getElem?_eq_getElem hl]; rfl
               rw [e, List.map_append, show n - (k + 1) = r by have := HR.out; omega]
               exact h1)
            | (simp [intOf]; omega)
        | str s hs =>
          obtain ⟨t, htt⟩ : ∃ t, t = shq s.data.toList := ⟨_, rfl⟩
          have HM := Lib.hid (fun W => quote_any W s hs)
          have e0 : quoted s = strL t := by rw [htt]; rfl
          rw [e0] at HM
          rw [← htt] at HK
          clear htt e0
          go_wp2_with fail
          refine (HM.out _).mono ?_
          rintro e w2 ⟨rfl, hb2⟩
          obtain ⟨r, hr⟩ : ∃ r, n - k = r + 1 := ⟨n - k - 1, by omega⟩
          have ho2 := HOUT.out.below hb2
          rw [hr] at ho2
          have hlen : ((ts.take k).map fun t => Value.string (strL t)).length = k := by rw [List.length_map, List.length_take]; omega
          have hcell := ho2.cell
          have hfroz := ho2.frozen ((ts.take k).map fun t => Value.string (strL t)).length
          have hset := ho2.set (.string (strL t))
          rw [hlen] at hcell hfroz hset
          have hlt2 := ho2.lt
          have HSET := Lib.hid hset
          have HR := Lib.hid hr
          have HB2 := Lib.hid (HB.out.trans (hb2.mono HB.out.size))
          clear hset hr ho2 hb2 hlen
          skip
          go_wp2_with fail
          all_goals go_roundw
          all_goals first
            | (refine ⟨k + 1, by omega, by omega, by go_num, HB2.out.setCell (by simp) _, ?_⟩
               have h1 := HSET.out
               have e : ts.take (k + 1) = ts.take k ++ [t] := by
                 obtain ⟨hl, rfl⟩ := List.getElem?_eq_some_iff.1 HK.out
                 rw [List.take_add_one, List.getElem?_eq_getElem hl]; rfl
               rw [e, List.map_append, show n - (k + 1) = r by have := HR.out; omega]
               exact h1)
            | (simp [intOf]; omega)
      · obtain rfl : k = m := by omega
        have hbad : Bad u := by
          rcases HEND.out with h | ⟨u', h1, h2⟩
          · omega
          · rw [Option.some.inj (hu.symm.trans h1)]; exact h2
        have HB := Lib.hid hbw
        clear hu hcu hout hbw
        cases hbad with
        | list v =>
          go_wp2_with fail
          go_ret
          exact ⟨(HB.out.alloc (by have := HB.out.size; omega) _), Or.inr ⟨by have := HMM.out; omega, _, rfl⟩⟩
        | map v =>
          go_wp2_with fail
          go_ret
          exact ⟨(HB.out.alloc (by have := HB.out.size; omega) _), Or.inr ⟨by have := HMM.out; omega, _, rfl⟩⟩
    · have hkn : k = n := by omega
      have hmn : m = n := by omega
      have e1 : ts.take k = ts := List.take_of_length_le (by have := HMM.out; omega)
      rw [e1, show n - k = 0 by omega] at hout
      have e2 : (ts.map strL).map (fun s : ByteArray => s.data.toList) = ts := by
        rw [List.map_map]
        have : (fun s : ByteArray => s.data.toList) ∘ strL = id := by funext l; simp [strL]
        rw [this, List.map_id]
      have hJ := join_any wr w.heap.size n (ts.map strL) ⟨#[32]⟩ (fun j x hx => by
        refine hout.at_ ?_
        rw [List.getElem?_map] at hx ⊢
        cases hs : ts[j]? with
        | none => rw [hs] at hx; cases hx
        | some s => rw [hs] at hx; simp only [Option.map_some, Option.some.injEq] at hx ⊢; rw [hx]) hout.lt (by rw [List.length_map]; have := HMM.out; omega) (by rw [List.length_map]; have := HMM.out; omega)
        (by
          rw [e2]
          have h1 := HJB.out
          have h2 := HMM.out
          show (Lib.join ts [32]).length ≤ _
          omega)
      rw [e2, List.length_map, ← HMM.out, hmn] at hJ
      have HJ := Lib.hid hJ
      have HB := Lib.hid hbw
      clear hJ hout hbw e1 e2
      go_wp2_with fail
      refine HJ.out.mono ?_
      rintro e w2 ⟨rfl, hb2⟩
      have HB2 := Lib.hid (HB.out.trans (hb2.mono HB.out.size))
      clear hb2
      go_wp2_with fail
      go_ret
      exact ⟨HB2.out, Or.inl ⟨by have := HMM.out; omega, rfl⟩⟩
end Go.Proofs.YtpigccnlembfdaaGreatDoor
