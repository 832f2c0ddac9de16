/- The encoder over a limited writer at any tree; jsonLimitedMarshal, Preview. Conditions: as each theorem states. -/
import Derived.Test.YtpigccnlembfdaaGreatDoorPvJ
import Derived.Test.YtpigccnlembfdaaGreatDoorPvStr
import Derived.Test.YtpigccnlembfdaaGreatDoorPvE
import Derived.Test.YtpigccnlembfdaaGreatDoorPvG
import Derived.Test.YtpigccnlembfdaaGreatDoorPvB
import Derived.Test.YtpigccnlembfdaaGreatDoorPvI
import Derived.Test.YtpigccnlembfdaaGreatDoorPvH
import Derived.Defers
import Derived.Recover

/- The walk of encode over a limited writer at any good tree whose text fits. Conditions: as each theorem states. -/
namespace Go.Proofs.YtpigccnlembfdaaGreatDoor
open Go.RowKit Go.Deep

theorem ta_bigp_zero (W : World) : (do pure (Value.tuple #[← zeroValue 110, .bool false]) : Sem Value).run Tryz.prog W = .ok (.tuple #[.pointer none, .bool false]) W := by kernel_rfl
theorem ta_bigp_no (u : TypeId) (v : Value) (W : World) (h : u ≠ 110) : (Instr.typeAssert (.iface u v) 20 110 true).run Tryz.prog W = .ok (.tuple #[.pointer none, .bool false]) W := by
  have e : (Instr.typeAssert (.iface u v) 20 110 true).run Tryz.prog W = (if u = 110 then (pure (Value.tuple #[v, .bool true]) : Sem Value) else (do pure (Value.tuple #[← zeroValue 110, .bool false]))).run Tryz.prog W := by kernel_rfl
  rw [e, if_neg h]
  exact ta_bigp_zero W
@[go_sem] theorem ta_bigp_string (v : Value) (W : World) : (Instr.typeAssert (.iface 9 v) 20 110 true).run Tryz.prog W = .ok (.tuple #[.pointer none, .bool false]) W := ta_bigp_no _ v W (by decide)
@[go_sem] theorem ta_bigp_list (v : Value) (W : World) : (Instr.typeAssert (.iface 66 v) 20 110 true).run Tryz.prog W = .ok (.tuple #[.pointer none, .bool false]) W := ta_bigp_no _ v W (by decide)
@[go_sem] theorem ta_bigp_map (v : Value) (W : World) : (Instr.typeAssert (.iface 69 v) 20 110 true).run Tryz.prog W = .ok (.tuple #[.pointer none, .bool false]) W := ta_bigp_no _ v W (by decide)
theorem ta_jnum_zero (W : World) : (do pure (Value.tuple #[← zeroValue 112, .bool false]) : Sem Value).run Tryz.prog W = .ok (.tuple #[.string ⟨#[]⟩, .bool false]) W := by kernel_rfl
theorem ta_jnum_no (u : TypeId) (v : Value) (W : World) (h : u ≠ 112) : (Instr.typeAssert (.iface u v) 20 112 true).run Tryz.prog W = .ok (.tuple #[.string ⟨#[]⟩, .bool false]) W := by
  have e : (Instr.typeAssert (.iface u v) 20 112 true).run Tryz.prog W = (if u = 112 then (pure (Value.tuple #[v, .bool true]) : Sem Value) else (do pure (Value.tuple #[← zeroValue 112, .bool false]))).run Tryz.prog W := by kernel_rfl
  rw [e, if_neg h]
  exact ta_jnum_zero W
@[go_sem] theorem ta_jnum_string (v : Value) (W : World) : (Instr.typeAssert (.iface 9 v) 20 112 true).run Tryz.prog W = .ok (.tuple #[.string ⟨#[]⟩, .bool false]) W := ta_jnum_no _ v W (by decide)
@[go_sem] theorem ta_jnum_list (v : Value) (W : World) : (Instr.typeAssert (.iface 66 v) 20 112 true).run Tryz.prog W = .ok (.tuple #[.string ⟨#[]⟩, .bool false]) W := ta_jnum_no _ v W (by decide)
@[go_sem] theorem ta_jnum_map (v : Value) (W : World) : (Instr.typeAssert (.iface 69 v) 20 112 true).run Tryz.prog W = .ok (.tuple #[.string ⟨#[]⟩, .bool false]) W := ta_jnum_no _ v W (by decide)
set_option maxRecDepth 100000 in
theorem encodeL_text (w : World) (B b g E : Nat) (bs l : List UInt8) (s : ByteArray) (h : Calls Tryz.prog 68 #[.pointer (some ⟨E, 0, none⟩), .string s] w (EncLPost B b g E bs l w)) :
    Calls Tryz.prog 49 #[.pointer (some ⟨E, 0, none⟩), .iface 9 (.string s)] w (EncLPost B b g E bs l w) := by
  have H := Lib.hid h
  clear h
  go_enter Tryz.func49, Tryz.ntmps49
  go_wp2_with fail
  refine H.out.mono ?_
  rintro e w4 ⟨rfl, h4⟩
  have HF := Lib.hid h4
  clear h4
  go_wp2_with fail
  go_end0
  exact ⟨rfl, HF.out⟩
set_option maxRecDepth 100000 in
theorem encodeL_list (w : World) (B b g E : Nat) (bs l : List UInt8) (A : Option Addr) (n c : Nat) (h : Calls Tryz.prog 69 #[.pointer (some ⟨E, 0, none⟩), .slice A n c] w (EncLPost B b g E bs l w)) :
    Calls Tryz.prog 49 #[.pointer (some ⟨E, 0, none⟩), .iface 66 (.slice A n c)] w (EncLPost B b g E bs l w) := by
  have H := Lib.hid h
  clear h
  go_enter Tryz.func49, Tryz.ntmps49
  go_wp2_with fail
  refine H.out.mono ?_
  rintro e w4 ⟨rfl, h4⟩
  have HF := Lib.hid h4
  clear h4
  go_wp2_with fail
  go_end0
  exact ⟨rfl, HF.out⟩
set_option maxRecDepth 100000 in
theorem encodeL_map (w : World) (B b g E : Nat) (bs l : List UInt8) (b0 : Nat) (h : Calls Tryz.prog 70 #[.pointer (some ⟨E, 0, none⟩), .map (some b0)] w (EncLPost B b g E bs l w)) :
    Calls Tryz.prog 49 #[.pointer (some ⟨E, 0, none⟩), .iface 69 (.map (some b0))] w (EncLPost B b g E bs l w) := by
  have H := Lib.hid h
  clear h
  go_enter Tryz.func49, Tryz.ntmps49
  go_wp2_with fail
  refine H.out.mono ?_
  rintro e w4 ⟨rfl, h4⟩
  have HF := Lib.hid h4
  clear h4
  go_wp2_with fail
  go_end0
  exact ⟨rfl, HF.out⟩
theorem encodeL_odd (w : World) (B b g E : Nat) (bs : List UInt8) (h : Int) (hst : StL w B b g E bs) (ho : h % 2 = 1) (h1 : -9007199254740992 < h) (h2 : h < 9007199254740992) (hl : bs.length + (halfText h).length < 32) :
    Calls Tryz.prog 49 #[.pointer (some ⟨E, 0, none⟩), .iface 65 (.float .f64 (hbits h))] w (EncLPost B b g E bs (halfText h) w) := by
  obtain ⟨m, hm⟩ : ∃ m, m = h.natAbs := ⟨_, rfl⟩
  have hm0 : m ≠ 0 := by omega
  obtain ⟨b1, b2, b3⟩ := sig_bounds m hm0 (by omega)
  have hN : m = 2 * (m / 2) + 1 := by omega
  have hk1 : 1 ≤ 53 - m.log2 := by omega
  have hs : sig m = (2 * (m / 2) + 1) * 2 ^ (53 - m.log2 - 1) := by
    rw [← hN]; unfold sig; rw [Nat.shiftLeft_eq]; congr 2; omega
  have hw := halfW_of (decide (h < 0)) (sig m) (53 - m.log2) b1 b2 hk1 (by omega)
  have e : fbits (decide (h < 0)) (sig m) (-((53 - m.log2 : Nat) : Int)) = hbits h := by
    unfold hbits; rw [← hm]; congr 1; omega
  rw [e] at hw
  have e2 : ((if (decide (h < 0)).toNat = 0 then [] else [45]) ++ (wholeD (m / 2) ++ [46, 53])) = halfText h := by
    unfold halfText; rw [hm]
    by_cases h0 : h < 0 <;> simp [h0]
  rw [← e2] at hl ⊢
  exact encodeL_half w B b g E (hbits h) (m / 2) (53 - m.log2) (sig m) _ bs hst (by omega) hk1 (by omega) hs hw hl
theorem toJAll_at : ∀ {l : List V} {i : Nat} {x : V}, l[i]? = some x → (toJAll l)[i]? = some x.toJ
  | [], i, x, h => by simp at h
  | y :: r, 0, x, h => by simp at h; subst h; simp [toJAll]
  | y :: r, i + 1, x, h => by simp only [toJAll, List.getElem?_cons_succ] at h ⊢; exact toJAll_at h
theorem rep_kb {w w' : World} {B b g E : Nat} {j : J} {u : Value} (h : Rep w (fun k => k < B) j u) (hk : KB B b g E w w') (_hB : B ≤ w.heap.size) : Rep w' (fun k => k < B) j u :=
  h.keep (fun _ h => h) (fun k hkB _ => hk.below.block k hkB) hk.below.size
/-- An element of a good list that is represented. -/
theorem elem_of {w : World} {S : Nat → Prop} {l : List V} {us : List Value} (hr : RepAll w S (toJAll l) us) (hg : GoodAll l) {i : Nat} {u : Value} {t : List UInt8} (hu : us[i]? = some u) (ht : (jsonAll l)[i]? = some t) :
    ∃ y, l[i]? = some y ∧ y ∈ l ∧ y.Good ∧ Rep w S y.toJ u ∧ t = y.jsonT := by
  have hi : i < l.length := by rw [← jsonAll_length l]; exact (List.getElem?_eq_some_iff.1 ht).1
  have hy : l[i]? = some l[i] := List.getElem?_eq_getElem hi
  refine ⟨l[i], hy, List.getElem_mem hi, goodAll_mem hg _ (List.getElem_mem hi), hr.at_ (toJAll_at hy) hu, ?_⟩
  rw [jsonAll_at hy] at ht
  exact (Option.some.inj ht).symm
theorem encodeL_any {Tabs : World → Prop} (hD : DecodeSaid Tabs) {N : Nat} (hTk : TabsKeep Tabs N) (n0 : Nat) : ∀ (x : V) (w : World) (B b g E : Nat) (bs : List UInt8) (u : Value), x.deep ≤ n0 → x.Good → Rep w (fun k => k < B) x.toJ u → StL w B b g E bs → N ≤ B → Tabs w → bs.length + x.jsonT.length < 32 →
    Calls Tryz.prog 49 #[.pointer (some ⟨E, 0, none⟩), u] w (EncLPost B b g E bs x.jsonT w) := by
  induction n0 with
  | zero =>
    intro x w B b g E bs u hd
    obtain ⟨k, h, t, aL, cL, l, aK, cK, ks, aV, cV, vs⟩ := x
    simp [V.deep] at hd
  | succ n0 ih =>
    intro x w B b g E bs u hd hgood hrep hst hNB hT hl
    obtain ⟨k, h, t, aL, cL, l, aK, cK, ks, aV, cV, vs⟩ := x
    unfold V.Good at hgood
    obtain ⟨hc1, hc2, hval, hks, hgl, hgv⟩ := hgood
    have hk0 := hc1.1
    have hk6 := hc1.2.1
    have hBw := hst.le
    simp only [V.deep] at hd
    have hk : k = 0 ∨ k = 1 ∨ k = 2 ∨ k = 3 ∨ k = 4 ∨ k = 5 ∨ k = 6 := by omega
    rcases hk with rfl | rfl | rfl | rfl | rfl | rfl | rfl
    · simp only [V.jsonT, V.toJ, if_true] at hl hrep ⊢
      unfold Rep at hrep
      subst hrep
      exact encodeL_nil w B b g E bs hst (by simpa using hl)
    · have e : (V.mk 1 h t aL cL l aK cK ks aV cV vs).toJ = .bool false := by simp [V.toJ]
      have e2 : (V.mk 1 h t aL cL l aK cK ks aV cV vs).jsonT = [102, 97, 108, 115, 101] := by simp [V.jsonT]
      rw [e] at hrep
      rw [e2] at hl ⊢
      unfold Rep at hrep
      subst hrep
      exact encodeL_false w B b g E bs hst (by simpa using hl)
    · have e : (V.mk 2 h t aL cL l aK cK ks aV cV vs).toJ = .bool true := by simp [V.toJ]
      have e2 : (V.mk 2 h t aL cL l aK cK ks aV cV vs).jsonT = [116, 114, 117, 101] := by simp [V.jsonT]
      rw [e] at hrep
      rw [e2] at hl ⊢
      unfold Rep at hrep
      subst hrep
      exact encodeL_true w B b g E bs hst (by simpa using hl)
    · have e2 : (V.mk 3 h t aL cL l aK cK ks aV cV vs).jsonT = figs h := by simp [V.jsonT]
      rw [e2] at hl ⊢
      by_cases hm : h.tmod 2 = 0
      · have e : (V.mk 3 h t aL cL l aK cK ks aV cV vs).toJ = .int (h.tdiv 2) := by simp [V.toJ, hm]
        rw [e] at hrep
        unfold Rep at hrep
        obtain ⟨rfl, _, _⟩ := hrep
        have ef : figs h = Lib.itoa (h.tdiv 2) := by unfold figs; rw [if_pos hm]
        rw [ef] at hl ⊢
        have hh := half_of (h := h) hc2.1 hc2.2.1
        exact encodeL_int w B b g E bs (h.tdiv 2) hst hl hh.1 hh.2
      · have e : (V.mk 3 h t aL cL l aK cK ks aV cV vs).toJ = .flt (hbits h) := by simp [V.toJ, hm]
        rw [e] at hrep
        unfold Rep at hrep
        subst hrep
        have ef : figs h = halfText h := by unfold figs; rw [if_neg hm]
        rw [ef] at hl ⊢
        have hb := hc2.2.2.resolve_left hm
        exact encodeL_odd w B b g E bs h hst (by rcases Int.emod_two_eq h with h0 | h0
                                                 · exact absurd (Int.tmod_eq_zero_of_dvd (Int.dvd_of_emod_eq_zero h0)) hm
                                                 · exact h0) hb.1 hb.2 hl
    · have e : (V.mk 4 h t aL cL l aK cK ks aV cV vs).toJ = .str t := by simp [V.toJ]
      have e2 : (V.mk 4 h t aL cL l aK cK ks aV cV vs).jsonT = 34 :: (jqs t.data.toList ++ [34]) := by simp [V.jsonT]
      rw [e] at hrep
      rw [e2] at hl ⊢
      unfold Rep at hrep
      obtain ⟨rfl, _⟩ := hrep
      exact encodeL_text w B b g E bs _ t (encStr_any hD hTk w B b g E bs t hst hNB hT hval hl)
    · have e : (V.mk 5 h t aL cL l aK cK ks aV cV vs).toJ = .list (toJAll l) := by simp [V.toJ]
      have e2 : (V.mk 5 h t aL cL l aK cK ks aV cV vs).jsonT = 91 :: (commas (jsonAll l) ++ [93]) := by simp [V.jsonT]
      rw [e] at hrep
      rw [e2] at hl ⊢
      unfold Rep at hrep
      obtain ⟨A, c, us, rfl, _, _, hall, hcells⟩ := hrep
      refine encodeL_list w B b g E bs _ A _ c (encodeArr_any w B b g E bs A c _ us (jsonAll l) hst (fun hn => ?_) (by rw [hall.length]) (by rw [jsonAll_length, toJAll_length]) hl ?_)
      · obtain ⟨ad, h1, h2, _, h3⟩ := hcells hn
        exact ⟨ad, h1, h2, h3⟩
      · intro i u' t' w' bs' hu ht hkb hst' hl'
        obtain ⟨y, hy, hmem, hgy, hry, rfl⟩ := elem_of hall hgl hu ht
        exact ih y w' B b g E bs' u' (by have := deep_mem hmem; omega) hgy (rep_kb hry hkb hBw) hst' hNB (hTk w w' B hNB hT hkb.below) hl'
    · have e : (V.mk 6 h t aL cL l aK cK ks aV cV vs).toJ = .map ks (toJAll vs) := by simp [V.toJ]
      have e2 : (V.mk 6 h t aL cL l aK cK ks aV cV vs).jsonT = 123 :: (commas (List.zipWith keyed ks (jsonAll vs)) ++ [125]) := by simp [V.jsonT]
      rw [e] at hrep
      rw [e2] at hl ⊢
      unfold Rep at hrep
      obtain ⟨b0, m, us, rfl, hb0, hmap, hall, hlen, hrise, _, hmem⟩ := hrep
      have hlv : ks.length = vs.length := by obtain ⟨_, _, _, _, _, _, h⟩ := hc1; exact h
      have hlu : us.length = vs.length := by rw [hall.length, toJAll_length]
      refine encodeL_map w B b g E bs _ b0 (encodeObj_any w B b g E bs b0 ks.length m ks us (jsonAll vs) ⟨hst, hb0, hmap, hrise, by omega, by rw [jsonAll_length]; omega, rfl, hmem, ?_, hl, ?_, ?_⟩)
      · intro u' hu'
        obtain ⟨i, hi, rfl⟩ := List.getElem_of_mem hu'
        have hiv : i < vs.length := by omega
        exact (hall.at_ (toJAll_at (List.getElem?_eq_getElem hiv)) (List.getElem?_eq_getElem hi)).shape
      · intro s w' bs' hs hkb hst' hl'
        exact encStr_any hD hTk w' B b g E bs' s hst' hNB (hTk w w' B hNB hT hkb.below) (hks.1 s hs) hl'
      · intro i u' t' w' bs' hu ht hkb hst' hl'
        obtain ⟨y, hy, hmemy, hgy, hry, rfl⟩ := elem_of hall hgv hu ht
        exact ih y w' B b g E bs' u' (by have := deep_mem hmemy; omega) hgy (rep_kb hry hkb hBw) hst' hNB (hTk w w' B hNB hT hkb.below) hl'
end Go.Proofs.YtpigccnlembfdaaGreatDoor

/- The walk of gojq.Preview where the text is short. Conditions: as the theorem states. -/
namespace Go.Proofs.YtpigccnlembfdaaGreatDoor
open Go.RowKit

/-- What jsonLimitedMarshal leaves where the text is short: a row that holds it. -/
def LimText (l : List UInt8) (w : World) (e : Ending) (w' : World) : Prop := ∃ g, e = .returned (.slice (some ⟨g, 0, none⟩) l.length 32) ∧ Below w.heap.size w w' ∧ ∀ (j : Nat) (h : j < l.length), w'.cell? ⟨g, j, none⟩ = some (.int .u8 (l[j]'h).toNat)
set_option maxRecDepth 100000 in
theorem preview_of (w : World) (u : Value) (l : List UInt8) (hl : l.length ≤ 30) (hm : Calls Tryz.prog 35 #[u, .int .i64 32] w (LimText l w)) :
    Calls Tryz.prog 22 #[u] w (TextIs l w) := by
  have HM := Lib.hid hm
  clear hm
  go_enter Tryz.func22, Tryz.ntmps22
  go_wp2_with fail
  refine HM.out.mono ?_
  rintro e w2 ⟨g, rfl, hb2, hc⟩
  have hcv := run_convert_bytes_back (P := Tryz.prog) w2 72 9 5 ⟨g, 0, none⟩ 32 l Tryz.underlying72 Tryz.underlying5 Tryz.underlying9 (fun j hj => by
    rw [show (⟨g, 0, none⟩ : Addr).add j = ⟨g, j, none⟩ by unfold Addr.add; split <;> simp_all]
    exact hc j hj)
  obtain ⟨n, hn⟩ : ∃ n, n = l.length := ⟨_, rfl⟩
  rw [← hn] at hl hcv ⊢
  clear hc hn
  go_wp2_with fail
  go_ret
  exact ⟨rfl, hb2⟩
end Go.Proofs.YtpigccnlembfdaaGreatDoor

/- The walks of jsonLimitedMarshal and of its deferred closure where the text is short. Conditions: as each theorem states. -/
namespace Go.Proofs.YtpigccnlembfdaaGreatDoor
open Go.RowKit

set_option maxRecDepth 100000 in
set_option maxHeartbeats 2000000 in
theorem catch_any (w : World) (b g pw pr : Nat) (l : List UInt8) (h : LimAt w b g l) (hw : w.cell? ⟨pw, 0, none⟩ = some (.pointer (some ⟨b, 0, none⟩))) (hr : w.cell? ⟨pr, 0, none⟩ = some (.slice none 0 0)) (hf : w.frozen? ⟨pr, 0, none⟩ = false) :
    CallsD Tryz.prog 47 #[.pointer (some ⟨pw, 0, none⟩), .pointer (some ⟨pr, 0, none⟩)] .returning w fun e u' w' =>
      e = .returned (.tuple #[]) ∧ u' = .returning ∧ ∃ n, w' = (w.drewN n).setCell ⟨pr, 0, none⟩ (.slice (some ⟨g, 0, none⟩) l.length 32) := by
  have HB := Lib.hid (limBytes_any w b g l h)
  have hlt := h.lt
  have hprl := World.block_lt_of_cell? w _ hr
  clear h
  refine callsD_of_wpS Tryz.func47 rfl fun c₀ cs hu => ?_
  apply wpS_seq
  apply wpS_region
  simp [wpOpsS, go_sem, recoverD, hu, Tryz.ntmps47, Exit.thenS]
  refine wpS_of_wp ?_
  go_wp2_with fail
  refine HB.out.mono ?_
  rintro e w2 ⟨rfl, m, rfl⟩
  have hr2 : (w.drewN m).cell? ⟨pr, 0, none⟩ = some (.slice none 0 0) := hr
  have hf2 : (w.drewN m).frozen? ⟨pr, 0, none⟩ = false := hf
  have hl2 : pr < (w.drewN m).heap.size := hprl
  obtain ⟨W, hW⟩ : ∃ W, W = w.drewN m := ⟨_, rfl⟩
  obtain ⟨v, hv⟩ : ∃ v, v = Value.slice (some ⟨g, 0, none⟩) l.length 32 := ⟨_, rfl⟩
  rw [← hv]
  have HV := Lib.hid (And.intro hv hW)
  simp only
  rw [← hW] at hr2 hf2 hl2 ⊢
  clear hW hr hf hprl hw hlt
  go_wp2_with fail
  have hq := HV.out.2
  clear hv HV HB
  subst hq
  cases c₀
  simp only at hu
  subst hu
  simp [bodyPostS, results, Tryz.results47]
  exact ⟨m, rfl⟩
theorem zero_enc (x : Value) : Tryz.zeroCells94.setIfInBounds 0 x = (x :: Lib.byteCells (List.replicate 64 0)).toArray := by kernel_rfl
/-- The five new blocks. -/
theorem made_lim (w : World) (rowC encC : Array Value) (o1 o4 : Obj) (hr : rowC = (Lib.byteCells [] ++ List.replicate (32 - ([] : List UInt8).length) (Value.int .u8 0)).toArray) (he : encC = (Value.iface 86 (.pointer (some ⟨w.heap.size + 1 + 1, 0, none⟩)) :: Lib.byteCells (List.replicate 64 0)).toArray) :
    StL (((((w.alloc o1).alloc (.cells rowC 5)).alloc (.cells #[.slice (some ⟨w.heap.size + 1, 0, none⟩) 32 32, .int .i64 0] 88)).alloc o4).alloc (.cells encC 94)) w.heap.size (w.heap.size + 1 + 1) (w.heap.size + 1) (w.heap.size + 1 + 1 + 1 + 1) [] ∧
    Below w.heap.size w (((((w.alloc o1).alloc (.cells rowC 5)).alloc (.cells #[.slice (some ⟨w.heap.size + 1, 0, none⟩) 32 32, .int .i64 0] 88)).alloc o4).alloc (.cells encC 94)) ∧
    (((((w.alloc o1).alloc (.cells rowC 5)).alloc (.cells #[.slice (some ⟨w.heap.size + 1, 0, none⟩) 32 32, .int .i64 0] 88)).alloc o4).alloc (.cells encC 94)).heap[w.heap.size]? = (w.alloc o1).heap[w.heap.size]? ∧
    (((((w.alloc o1).alloc (.cells rowC 5)).alloc (.cells #[.slice (some ⟨w.heap.size + 1, 0, none⟩) 32 32, .int .i64 0] 88)).alloc o4).alloc (.cells encC 94)).heap.size = w.heap.size + 5 ∧
    (((((w.alloc o1).alloc (.cells rowC 5)).alloc (.cells #[.slice (some ⟨w.heap.size + 1, 0, none⟩) 32 32, .int .i64 0] 88)).alloc o4).alloc (.cells encC 94)).heap[w.heap.size + 1 + 1 + 1]? = ((((w.alloc o1).alloc (.cells rowC 5)).alloc (.cells #[.slice (some ⟨w.heap.size + 1, 0, none⟩) 32 32, .int .i64 0] 88)).alloc o4).heap[w.heap.size + 1 + 1 + 1]? := by
  obtain ⟨w1, hw1⟩ : ∃ w1, w1 = w.alloc o1 := ⟨_, rfl⟩
  have s1 : w1.heap.size = w.heap.size + 1 := by rw [hw1]; simp
  obtain ⟨w2, hw2⟩ : ∃ w2, w2 = w1.alloc (.cells rowC 5) := ⟨_, rfl⟩
  have s2 : w2.heap.size = w.heap.size + 2 := by rw [hw2]; simp; omega
  have n2 : w2.heap[w.heap.size + 1]? = some (.cells rowC 5 (0, 0)) := by rw [hw2, ← s1]; exact heap_alloc_new w1 _
  obtain ⟨w3, hw3⟩ : ∃ w3, w3 = w2.alloc (.cells #[.slice (some ⟨w.heap.size + 1, 0, none⟩) 32 32, .int .i64 0] 88) := ⟨_, rfl⟩
  have s3 : w3.heap.size = w.heap.size + 3 := by rw [hw3]; simp; omega
  have n3 : w3.heap[w.heap.size + 1 + 1]? = some (.cells #[.slice (some ⟨w.heap.size + 1, 0, none⟩) 32 32, .int .i64 0] 88 (0, 0)) := by rw [hw3, show w.heap.size + 1 + 1 = w2.heap.size by omega]; exact heap_alloc_new w2 _
  obtain ⟨w4, hw4⟩ : ∃ w4, w4 = w3.alloc o4 := ⟨_, rfl⟩
  have s4 : w4.heap.size = w.heap.size + 4 := by rw [hw4]; simp; omega
  obtain ⟨w5, hw5⟩ : ∃ w5, w5 = w4.alloc (.cells encC 94) := ⟨_, rfl⟩
  have s5 : w5.heap.size = w.heap.size + 5 := by rw [hw5]; simp; omega
  have n5 : w5.heap[w.heap.size + 1 + 1 + 1 + 1]? = some (.cells encC 94 (0, 0)) := by rw [hw5, show w.heap.size + 1 + 1 + 1 + 1 = w4.heap.size by omega]; exact heap_alloc_new w4 _
  have k21 : ∀ k, k < w.heap.size + 1 → w2.heap[k]? = w1.heap[k]? := fun k hk => by rw [hw2]; exact Lib.alloc_old _ _ _ (by omega)
  have k32 : ∀ k, k < w.heap.size + 2 → w3.heap[k]? = w2.heap[k]? := fun k hk => by rw [hw3]; exact Lib.alloc_old _ _ _ (by omega)
  have k43 : ∀ k, k < w.heap.size + 3 → w4.heap[k]? = w3.heap[k]? := fun k hk => by rw [hw4]; exact Lib.alloc_old _ _ _ (by omega)
  have k54 : ∀ k, k < w.heap.size + 4 → w5.heap[k]? = w4.heap[k]? := fun k hk => by rw [hw5]; exact Lib.alloc_old _ _ _ (by omega)
  rw [← hw1, ← hw2, ← hw3, ← hw4, ← hw5]
  refine ⟨⟨⟨?_, ?_, by omega, by simp⟩, ⟨List.replicate 64 0, by simp, ?_⟩, by omega, by omega, by omega, by omega, by omega, by omega⟩, ?_, ?_, s5, k54 _ (by omega)⟩
  · rw [k54 _ (by omega), k43 _ (by omega)]; exact n3
  · rw [k54 _ (by omega), k43 _ (by omega), k32 _ (by omega), n2, hr]
  · rw [n5, he]
  · rw [hw5, hw4, hw3, hw2, hw1]
    exact (((((Below.refl _ _).alloc (Nat.le_refl _) _).alloc (by simp) _).alloc (by simp; omega) _).alloc (by simp; omega) _).alloc (by simp; omega) _
  · rw [k54 _ (by omega), k43 _ (by omega), k32 _ (by omega), k21 _ (by omega)]
set_option maxRecDepth 100000 in
set_option maxHeartbeats 4000000 in
theorem limMarshal_of (w : World) (u : Value) (l : List UInt8) (hv : ∀ (W : World) (b g E : Nat), Below w.heap.size w W → StL W w.heap.size b g E [] → Calls Tryz.prog 49 #[.pointer (some ⟨E, 0, none⟩), u] W (EncLPost w.heap.size b g E [] l W)) :
    Calls Tryz.prog 35 #[u, .int .i64 32] w (LimText l w) := by
  have hmf : ∀ (fn : Fn) (first cap : Array Value) (w : World), (Instr.makeFunc fn first cap).run Tryz.prog w = .ok (.func fn first cap) w := fun _ _ _ _ => rfl
  obtain ⟨rowC, hrow⟩ : ∃ rowC, rowC = (Lib.byteCells [] ++ List.replicate (32 - ([] : List UInt8).length) (Value.int .u8 0)).toArray := ⟨_, rfl⟩
  obtain ⟨encC, henc⟩ : ∃ encC, encC = Tryz.zeroCells94.setIfInBounds 0 (.iface 86 (.pointer (some ⟨w.heap.size + 1 + 1, 0, none⟩))) := ⟨_, rfl⟩
  have hmk : ∀ W : World, (Instr.makeSlice 72 (.int .i64 32) (.int .i64 32)).run Tryz.prog W = .ok (.slice (some ⟨W.heap.size, 0, none⟩) 32 32) (W.alloc (.cells rowC 5)) := fun W => by
    have := run_make_row' (P := Tryz.prog) 72 5 (.int .u8 0) 1 Tryz.underlying72 info_u8 rfl .i64 .i64 32 (by decide) (by decide) W
    rw [show madeCells #[Value.int .u8 0] 32 = rowC from by rw [hrow]; kernel_rfl] at this
    exact this
  have HV := Lib.hid hv
  have HM := Lib.hid (made_lim w rowC encC (.cells #[.slice none 0 0] 72) (.cells #[.pointer (some ⟨w.heap.size + 1 + 1, 0, none⟩)] 86) hrow (by rw [henc]; exact zero_enc _))
  clear hv hrow
  go_enter_defers Tryz.func35, Tryz.ntmps35
  go_wp2_with fail
  rw [← henc]
  obtain ⟨hst, hbl, c0, f0, c3⟩ := HM.out
  refine (HV.out _ _ _ _ hbl hst).mono ?_
  rintro e w2 ⟨rfl, hst2, hkb2⟩
  have hr2 := (hkb2.keep w.heap.size (by omega) (by omega) (by omega) (by omega)).trans c0
  rw [heap_alloc_new w _] at hr2
  have hp2 := (hkb2.keep (w.heap.size + 1 + 1 + 1) (by omega) (by omega) (by omega) (by omega)).trans c3
  have e4 : ((w.alloc (.cells #[.slice none 0 0] 72)).alloc (.cells rowC 5)).alloc (.cells #[.slice (some ⟨w.heap.size + 1, 0, none⟩) 32 32, .int .i64 0] 88) = ((w.alloc (.cells #[.slice none 0 0] 72)).alloc (.cells rowC 5)).alloc (.cells #[.slice (some ⟨w.heap.size + 1, 0, none⟩) 32 32, .int .i64 0] 88) := rfl
  have hnew := heap_alloc_new (((w.alloc (.cells #[.slice none 0 0] 72)).alloc (.cells rowC 5)).alloc (.cells #[.slice (some ⟨w.heap.size + 1, 0, none⟩) 32 32, .int .i64 0] 88)) (.cells #[.pointer (some ⟨w.heap.size + 1 + 1, 0, none⟩)] 86)
  simp only [World.size_alloc] at hnew
  rw [hnew] at hp2
  clear hnew e4
  have HC := Lib.hid (catch_any w2 _ _ (w.heap.size + 1 + 1 + 1) w.heap.size ([] ++ l) hst2.lim (by rw [cell_of_row _ _ 0 _ _ _ hp2]; rfl) (by rw [cell_of_row _ _ 0 _ _ _ hr2]; rfl) (by simp [World.frozen?, hr2]))
  have HS2 := Lib.hid (And.intro hst2 (And.intro hkb2 (And.intro hr2 hbl)))
  clear hst2 hkb2 hr2 hp2 hst hbl c0 f0 c3 HM
  rw [List.nil_append] at HC HS2
  go_wp2_with fail
  refine leaves_cons (f := 47) (args := #[.pointer (some ⟨w.heap.size + 1 + 1 + 1, 0, none⟩), .pointer (some ⟨w.heap.size, 0, none⟩)]) (by simp) (by simp [go_sem]) ?_
  refine HC.out.mono ?_
  rintro e u' w3 ⟨rfl, rfl, n, rfl⟩
  have hcell : ((w2.drewN n).setCell ⟨w.heap.size, 0, none⟩ (.slice (some ⟨w.heap.size + 1, 0, none⟩) l.length 32)).cell? ⟨w.heap.size, 0, none⟩ = some (.slice (some ⟨w.heap.size + 1, 0, none⟩) l.length 32) := by
    have hh : w2.heap[w.heap.size]? = some (.cells #[.slice none 0 0] 72 (0, 0)) := HS2.out.2.2.1
    simp [World.cell?, World.setCell, Array.getElem?_modify, hh]
  simp [Leaves, settle, results, Tryz.results35, go_sem, hcell]
  have hb2 := HS2.out.2.2.2.trans HS2.out.2.1.below
  have hB2 : Below w.heap.size w (w2.drewN n) := hb2.trans ((below_drewN w2 n).mono hb2.size)
  have hlt : w.heap.size < (w2.drewN n).heap.size := (Array.getElem?_eq_some_iff.1 HS2.out.2.2.1).1
  refine ⟨_, rfl, hB2.setCell (Nat.le_refl _) _, fun j hj => ?_⟩
  have hrw : ((w2.drewN n).setCell ⟨w.heap.size, 0, none⟩ (.slice (some ⟨w.heap.size + 1, 0, none⟩) l.length 32)).heap[w.heap.size + 1]? = some (.cells (Lib.byteCells l ++ List.replicate (32 - l.length) (Value.int .u8 0)).toArray 5 (0, 0)) :=
    ((grown_cell (w2.drewN n) w.heap.size 0 _).block (w.heap.size + 1) (show w.heap.size + 1 < w2.heap.size from HS2.out.1.lim.rlt) (fun e => by have := Option.some.inj e; omega)).trans HS2.out.1.lim.row
  rw [cell_of_row _ _ j _ _ _ hrw, List.getElem?_toArray, List.getElem?_append_left (by simp [Lib.byteCells]; exact hj)]
  simp [Lib.byteCells, hj]
end Go.Proofs.YtpigccnlembfdaaGreatDoor

/- The walk of impl.Preview at a good tree whose JSON text is short. Conditions: as the theorem states. -/
namespace Go.Proofs.YtpigccnlembfdaaGreatDoor
open Go.RowKit Go.Deep

theorem limMarshal_any {Tabs : World → Prop} (hD : DecodeSaid Tabs) {N : Nat} (hTk : TabsKeep Tabs N) (x : V) (w : World) (S : Nat → Prop) (u : Value) (hN : N ≤ w.heap.size) (hT : Tabs w) (hg : x.Good) (hr : Rep w S x.toJ u) (hl : x.jsonT.length ≤ 20) :
    Calls Tryz.prog 35 #[u, .int .i64 32] w (LimText x.jsonT w) :=
  limMarshal_of w u x.jsonT fun W b g E hb hst => encodeL_any hD hTk _ x W w.heap.size b g E [] u (Nat.le_refl _) hg ((hr.bounded.more (S' := fun k => k < w.heap.size) fun _ h => h.2).below hb) hst hN (hTk w W w.heap.size hN hT hb) (by simp; omega)
/-- What impl.Preview leaves. -/
def PrevPost (l : List UInt8) (w : World) (e : Ending) (w' : World) : Prop := e = .returned (.tuple #[.string (strL l), .bool true]) ∧ Below w.heap.size w w'
set_option maxRecDepth 100000 in
set_option maxHeartbeats 2000000 in
theorem implPreview_any {Tabs : World → Prop} (hD : DecodeSaid Tabs) {N : Nat} (hTk : TabsKeep Tabs N) (x : V) (w : World) (B : Nat) (hB : B ≤ w.heap.size) (hin : x.In w B) (hN : N ≤ w.heap.size) (hT : Tabs w) (hg : x.Good) (hp : x.parts ≤ 1000) (hl : x.jsonT.length ≤ 20) :
    Calls Tryz.prog 9 #[x.val] w (PrevPost x.jsonT w) := by
  have hG : ∀ w', Below w.heap.size w w' → Calls Tryz.prog 21 #[x.val] w' (GoPost x.toJ w') := fun w' hb =>
    toGo_any _ x w' B (Nat.le_refl _) (hin.below hb hB) (by have := hb.size; omega) hg (by omega)
  have hP : ∀ w' S u, Below w.heap.size w w' → Rep w' S x.toJ u → Calls Tryz.prog 22 #[u] w' (TextIs x.jsonT w') := fun w' S u hb hr =>
    preview_of w' u x.jsonT (by omega) (limMarshal_any hD hTk x w' S u (by have := hb.size; omega) (hTk w w' w.heap.size hN hT hb) hg hr hl)
  obtain ⟨j, hj⟩ : ∃ j, j = x.toJ := ⟨_, rfl⟩
  obtain ⟨l, hll⟩ : ∃ l, l = x.jsonT := ⟨_, rfl⟩
  rw [← hj] at hG hP
  rw [← hll] at hP ⊢
  have HG := Lib.hid hG
  have HP := Lib.hid hP
  clear hG hP hj hll hin hT hg hp hl hTk hD hN hB
  obtain ⟨k, h, t, aL, cL, ll, aK, cK, ks, aV, cV, vs⟩ := x
  rw [V.val_mk] at HG ⊢
  generalize ll.length = nl at *
  generalize ks.length = nk at *
  generalize vs.length = nv at *
  go_enter Tryz.func9, Tryz.ntmps9
  go_wp2_with fail
  refine (HG.out _ (below1 _ _)).mono ?_
  rintro e w1 ⟨u, rfl, hb1, hr1⟩
  have HB1 := Lib.hid ((below1 w (.cells #[.int .i64 k, .int .i64 h, .string t, .slice aL nl cL, .slice aK nk cK, .slice aV nv cV] 26)).trans (hb1.mono (by simp)))
  have HPP := Lib.hid (HP.out w1 _ u HB1.out hr1)
  clear hb1 hr1
  go_wp2_with fail
  refine HPP.out.mono ?_
  rintro e w2 ⟨rfl, hb2⟩
  have HB2 := Lib.hid (HB1.out.trans (hb2.mono HB1.out.size))
  clear hb2
  go_wp2_with fail
  go_ret2
  exact ⟨rfl, HB2.out⟩
end Go.Proofs.YtpigccnlembfdaaGreatDoor
