/- The walk of deepMergeObjects: two represented maps give a represented map, the second one merged into the first. Conditions: as the theorem states. -/
import Derived.Test.YtpigccnlembfdaaDoorTake
import Derived.Test.YtpigccnlembfdaaDoorBool
namespace Go.Proofs.YtpigccnlembfdaaDoor
open Go.RowKit Go.Maps

theorem ta_map_rep {w : World} {S : Nat → Prop} {j : J} {u : Value} (h : Rep w S j u) (hn : ∀ ks vs, j ≠ .map ks vs) (W : World) :
    (Instr.typeAssert u 20 42 true).run Tryd.prog W = .ok (.tuple #[.map none, .bool false]) W := by
  cases j with
  | null => unfold Rep at h; subst h; simp [go_sem]
  | bool b => unfold Rep at h; subst h; simp [go_sem]
  | int n => unfold Rep at h; obtain ⟨rfl, _⟩ := h; simp [go_sem]
  | flt n => unfold Rep at h; subst h; simp [go_sem]
  | str s => unfold Rep at h; obtain ⟨rfl, _⟩ := h; simp [go_sem]
  | list l => unfold Rep at h; obtain ⟨A, c, us, rfl, _⟩ := h; simp [go_sem]
  | map ks vs => exact absurd rfl (hn ks vs)

/-- What merging leaves. -/
def MergePost (S : Nat → Prop) (j : J) (w : World) (e : Ending) (w' : World) : Prop :=
  ∃ x, e = .returned x ∧ Below w.heap.size w w' ∧ Rep w' (fun b => S b ∨ w.heap.size ≤ b) j x

/-- What the map that is being made gives under a key: merged where the second map's entry has come. -/
def tgt (ks : List ByteArray) (vs : List J) (ks' : List ByteArray) (vs' : List J) (left : Lit → Bool) (s : ByteArray) : Option J :=
  if left (.string s.data.toList) then at? ks vs s else match at? ks' vs' s with
    | some v => some (over (at? ks vs s) v)
    | none => at? ks vs s

theorem Has.more {w : World} {S S' : Nat → Prop} {o : Option J} {v : Option Value} (h : Has w S o v) (hS : ∀ b, S b → S' b) : Has w S' o v := by
  cases o with
  | none => exact h
  | some j => obtain ⟨u, hu, hr⟩ := h; exact ⟨u, hu, hr.more hS⟩
theorem Has.keep {w w' : World} {S : Nat → Prop} {o : Option J} {v : Option Value} (h : Has w S o v) (hk : ∀ b, S b → b < w.heap.size → w'.heap[b]? = w.heap[b]?) (hsz : w.heap.size ≤ w'.heap.size) : Has w' S o v := by
  cases o with
  | none => exact h
  | some j => obtain ⟨u, hu, hr⟩ := h; exact ⟨u, hu, hr.keep (fun _ h => h) hk hsz⟩
theorem tgt_start {ks : List ByteArray} {vs : List J} {ks' : List ByteArray} {vs' : List J} {D : DataW Value} {w : World} {S : Nat → Prop} (h : ∀ s, Has w S (at? ks' vs' s) (mapOf D s)) (s : ByteArray) : tgt ks vs ks' vs' (Maps.has D) s = at? ks vs s := by
  unfold tgt
  cases hh : Maps.has D (.string s.data.toList) with
  | true => rw [if_pos rfl]
  | false =>
    rw [if_neg (by decide)]
    have e : mapOf D s = none := by unfold mapOf; rw [atKey_of_not_has hh]
    have h1 := h s
    rw [e] at h1
    cases ha : at? ks' vs' s with
    | none => rfl
    | some v => rw [ha] at h1; obtain ⟨u, hu, _⟩ := h1; cases hu
/-- One more entry has come. -/
theorem tgt_step {ks : List ByteArray} {vs : List J} {ks' : List ByteArray} {vs' : List J} {left : Lit → Bool} {w w' : World} {S : Nat → Prop} {m : ByteArray → Option Value} {x : ByteArray} {v : J} {u : Value}
    (hx : at? ks' vs' x = some v) (hl : left (.string x.data.toList) = true) (h : ∀ s, Has w S (tgt ks vs ks' vs' left s) (m s)) (hk : ∀ b, S b → b < w.heap.size → w'.heap[b]? = w.heap[b]?) (hsz : w.heap.size ≤ w'.heap.size)
    (hu : Rep w' S (over (at? ks vs x) v) u) (s : ByteArray) :
    Has w' S (tgt ks vs ks' vs' (fun z => left z && !z.sameKey (.string x.data.toList)) s) (if s = x then some u else m s) := by
  by_cases e : s = x
  · subst e
    rw [if_pos rfl]
    have hsk : (Lit.string s.data.toList).sameKey (Lit.string s.data.toList) = true := WideAt.sameKey_self (by trivial)
    simp only [tgt, hsk, hl, hx, Bool.not_true, Bool.and_false, Bool.false_eq_true, if_false]
    exact ⟨u, rfl, hu⟩
  · rw [if_neg e]
    have h1 := (h s).keep hk hsz
    have hsk : (Lit.string s.data.toList).sameKey (Lit.string x.data.toList) = false := sameKey_ne (fun h => e (str_inj (by injection h)))
    simp only [tgt, hsk, Bool.not_false, Bool.and_true] at h1 ⊢
    exact h1
theorem below_grown {w w' : World} (h : Below w.heap.size w w') : w.grownBy w' none := ⟨h.os, h.tape, h.output, h.size, fun i hi _ => h.block i hi⟩
theorem J.parts_pos (j : J) : 1 ≤ j.parts := by cases j <;> simp [J.parts]
theorem jparts_mem : ∀ {l : List J} {x : J}, x ∈ l → x.parts ≤ jpartsAll l
  | [], _, h => by cases h
  | y :: r, x, h => by
    simp only [jpartsAll]
    rcases List.mem_cons.1 h with rfl | h
    · omega
    · have := jparts_mem h; omega
theorem jparts_length : ∀ (l : List J), l.length ≤ jpartsAll l
  | [] => by simp [jpartsAll]
  | y :: r => by
    simp only [jpartsAll, List.length_cons]
    have := jparts_length r
    have := y.parts_pos
    omega
theorem zero_any (W : World) : (zeroValue 20).run Tryd.prog W = .ok .nilIface W := by kernel_rfl

set_option maxRecDepth 100000 in
set_option maxHeartbeats 2000000 in
theorem merge_any (N : Nat) : ∀ (ks : List ByteArray) (vs : List J) (ks' : List ByteArray) (vs' : List J) (w : World) (S : Nat → Prop) (bl br : Nat), (J.map ks' vs').parts ≤ N → (J.map ks vs).parts ≤ 1000000 → (J.map ks' vs').parts ≤ 1000000 →
    Rep w S (.map ks vs) (.iface 42 (.map (some bl))) → Rep w S (.map ks' vs') (.iface 42 (.map (some br))) →
    Calls Tryd.prog 28 #[.map (some bl), .map (some br)] w (MergePost S (meld (.map ks vs) (.map ks' vs')) w) := by
  induction N with
  | zero => intro ks vs ks' vs' w S bl br h; simp [J.parts] at h
  | succ N ih =>
    intro ks vs ks' vs' w S bl br hN hp1 hp2 hl hr
    have K := string_keyed Tryd.underlying9
    have hlb := hl.bounded
    have hrb := hr.bounded
    unfold Rep at hlb hrb
    obtain ⟨bl', ml, usl, e1, hSl, hML, hRL, hlen1, hris1, hsz1, hml⟩ := hlb
    obtain ⟨br', mr, usr, e2, hSr, hMR, hRR, hlen2, hris2, hsz2, hmr⟩ := hrb
    cases e1; cases e2
    have hL0 := hML
    have hR0 := hMR
    obtain ⟨esl, ckl, hbl, _, hszl, _⟩ := hL0
    obtain ⟨esr, ckr, hbr, _, hszr, _⟩ := hR0
    have hbdm := MapIs.made w
    have hblm : MapIs (w.alloc (.map #[] 0)) bl ks.length ml := hML.of_block (Below.heap_alloc _ _ bl hML.lt)
    have hne : w.heap.size ≠ bl := by have := hML.lt; omega
    have hcap : ks.length ≤ maxLen := by have h1 := jparts_length vs; simp only [J.parts] at hp1; simp only [maxLen]; omega
    have hcapr : ks'.length ≤ maxLen := by have h1 := jparts_length vs'; simp only [J.parts] at hp2; simp only [maxLen]; omega
    have hll := fun ty => run_len_map (P := Tryd.prog) (w := w) 42 ty bl esl ckl Tryd.underlying42 hbl
    have hlr := fun ty => run_len_map (P := Tryd.prog) (w := w) 42 ty br esr ckr Tryd.underlying42 hbr
    have hmk := fun (n : Int) => run_makeMap_hint (P := Tryd.prog) 42 9 20 .i64 n Tryd.underlying42 w
    go_enter Tryd.func28, Tryd.ntmps28
    go_wp2_with fail
    refine (copy_any _ w.heap.size bl ks.length ml hbdm hblm hne hcap).mono ?_
    rintro e w1 ⟨rfl, ⟨n1, hm1⟩, hg1⟩
    have hMR1 : MapIs w1 br ks'.length mr := (hMR.of_block (Below.heap_alloc w (.map #[] 0) br hMR.lt)).of_block (hg1.block br (by have := hMR.lt; simp; omega) (by have := hMR.lt; simp; omega))
    obtain ⟨D, hown, hsz, hmD⟩ := hMR1.own Tryd.underlying9 hcapr
    go_wp2_with (first
      | (at_range; refine wpList_range_own _ rfl _ 42 rfl 9 20 K Tryd.underlying42 heldR br ks'.length D rfl hown ?_; intro w2 hrg2 hg2 hs2)
      | go_in)
    go_frame
    have hs1 : w.heap.size + 1 ≤ w1.heap.size := by have := hg1.size; simpa using this
    have hb2 : Below w.heap.size w w2 := by
      have h1 : Below w.heap.size w w1 := ((Below.refl _ _).alloc (Nat.le_refl _) _).grown hg1 (by simp) (fun k hk => by cases hk; exact Nat.le_refl _)
      exact h1.grown hg2 (by omega) (fun k hk => by cases hk)
    generalize hr0 : w1.heap.size = r at *
    have hRL2 := hRL.below hb2
    have hRR2 := hRR.below hb2
    go_loopw [25] (fun _ wr => ∃ (left : Lit → Bool) (cnt n' : Nat) (m' : ByteArray → Option Value), wr.ranges Tryd.prog 9 heldR br r ks'.length D left cnt ∧ MapIs wr w.heap.size n' m' ∧ Below w.heap.size w wr ∧ r < wr.heap.size ∧
        ∀ s, Has wr (fun b => (S b ∧ b < w.heap.size) ∨ (w.heap.size < b ∧ b ≠ r)) (tgt ks vs ks' vs' left s) (m' s))
      (fun _ wr => wr.rangeLeft br r)
    case atStart =>
      refine ⟨_, _, n1, ml, hrg2, hm1.of_block (hg2.block _ hm1.lt (by simp)), hb2, by omega, fun s => ?_⟩
      rw [tgt_start (fun s => hmD ▸ rep_look hris2 hlen2 hRR2 hmr s)]
      exact (rep_look hris1 hlen1 hRL2 hml s).more (fun b hb => Or.inl hb)
    case round =>
      obtain ⟨left, cnt, n', m', hrg, hm, hbw, hrw, hH⟩ := hrel
      go_wp2_with (first
        | (at_next; refine wpList_next_ranges _ rfl _ rfl 9 K heldR Value.string id (fun key kl h => by obtain ⟨s, e, _⟩ := key_inv Tryd.underlying9 h; exact ⟨s, e⟩) (fun v _ _ => ⟨v, rfl⟩) br r ks'.length D _ _ rfl hrg ?_ ?_)
        | go_in)
      · intro hc0 hl0
        go_wp2_with fail
        go_ret
        refine ⟨_, rfl, hbw, ?_⟩
        rw [meld_map]
        refine rep_map hm (Or.inr (Nat.le_refl _)) (putAll_rising ks vs hlen1 hris1 _ _) (putAll_length ks vs hlen1 _ _) (fun s hs => ?_) (fun s => ?_)
        · rcases (putAll_mem ks vs ks' _).1 s hs with h | h
          · exact hsz2 s h
          · exact hsz1 s h
        · rw [at_meld ks vs hlen1]
          have h1 := hH s
          unfold tgt at h1
          rw [hl0, if_neg (by decide)] at h1
          exact h1.more (fun b hb => by rcases hb with hb | hb; exact Or.inl hb.1; exact Or.inr (by omega))
      · intro x c kl yd yp w3 cnt1 hkey hlx hv hat hrg1 hlt hg3 hs3 hen
        obtain ⟨s', e1, e2⟩ := key_inv Tryd.underlying9 hkey
        cases e1
        rw [keyOf_str Tryd.underlying9 e2] at hkey
        cases hkey
        have hc := mapOf_at hv hat
        have hbw3 : Below w.heap.size w w3 := hbw.grown hg3 hbw.size (fun k hk => by cases hk; omega)
        have hm3 : MapIs w3 w.heap.size n' m' := hm.of_block (hg3.block _ hm.lt (fun e => by have := Option.some.inj e; omega))
        have hH3 : ∀ s, Has w3 (fun b => (S b ∧ b < w.heap.size) ∨ (w.heap.size < b ∧ b ≠ r)) (tgt ks vs ks' vs' left s) (m' s) := fun s =>
          (hH s).keep (fun b hb hlt => hg3.block b hlt (fun e => by have := Option.some.inj e; omega)) (by omega)
        have hRx := rep_look hris2 hlen2 (hRR.below hbw3) hmr x
        have hHx := hH3 x
        unfold tgt at hHx
        rw [hlx, if_pos rfl] at hHx
        rw [← hmD, hc] at hRx
        have hlook := hm3.look Tryd.underlying42 Tryd.underlying9 (zero_any w3) true e2
        have hin : ∀ k, some k = some r → False ∨ k = r := fun k h => Or.inr (Option.some.inj h)
        cases hav : at? ks' vs' x with
        | none => rw [hav] at hRx; cases hRx
        | some v =>
          rw [hav] at hRx
          obtain ⟨c', ec, hRc⟩ := hRx
          cases ec
          -- a store of the entry as it came
          have hplain : over (at? ks vs x) v = v → ∃ o, (Instr.mapUpdate 42 (.map (some w.heap.size)) (.string x) c).run Tryd.prog w3 = .ok () (Go.ChangeMaps.setBlock w3 w.heap.size o) ∧
              (∃ (left : Lit → Bool) (cnt n' : Nat) (m' : ByteArray → Option Value), (Go.ChangeMaps.setBlock w3 w.heap.size o).ranges Tryd.prog 9 heldR br r ks'.length D left cnt ∧ cnt = cnt1 ∧ MapIs (Go.ChangeMaps.setBlock w3 w.heap.size o) w.heap.size n' m' ∧ Below w.heap.size w (Go.ChangeMaps.setBlock w3 w.heap.size o) ∧ r < (Go.ChangeMaps.setBlock w3 w.heap.size o).heap.size ∧
                ∀ s, Has (Go.ChangeMaps.setBlock w3 w.heap.size o) (fun b => (S b ∧ b < w.heap.size) ∨ (w.heap.size < b ∧ b ≠ r)) (tgt ks vs ks' vs' left s) (m' s)) := fun hov => by
            obtain ⟨o, hput, hm4⟩ := hm3.put Tryd.underlying42 Tryd.underlying9 e2 c
            have hg4 := grown_set_block w3 w.heap.size o
            have hk4 : ∀ b, ((S b ∧ b < w.heap.size) ∨ (w.heap.size < b ∧ b ≠ r)) → b < w3.heap.size → (Go.ChangeMaps.setBlock w3 w.heap.size o).heap[b]? = w3.heap[b]? := fun b hb hlt => hg4.block b hlt (fun e => by have := Option.some.inj e; omega)
            have hrg4 := hrg1.kept hg4 (fun e => by have := Option.some.inj e; have := hMR.lt; omega) (fun e => by have := Option.some.inj e; omega)
            rw [← hlen2] at hrg4
            refine ⟨o, hput, _, cnt1, _, _, hrg4, rfl, hm4, hbw3.grown hg4 hbw3.size (fun k hk => by cases hk; exact Nat.le_refl _), Nat.lt_of_lt_of_le (by omega) hg4.size, fun s => tgt_step hav hlx hH3 hk4 hg4.size ?_ s⟩
            rw [hov]
            exact (hRc.more (fun b hb => Or.inl hb)).keep (fun _ h => h) hk4 hg4.size
          cases hao : at? ks vs x with
          | none =>
            rw [hao] at hHx hplain
            have hmx : m' x = none := hHx
            rw [hmx] at hlook
            simp only [Option.getD_none, Option.isSome_none, if_true] at hlook
            obtain ⟨o, hput, hrel⟩ := hplain rfl
            have HREL := Lib.hid hrel
            have HGR := Lib.hid hrg
            clear hrel hplain hHx hH3 hRc hH hrg hrg1
            go_wp2_with fail
            go_roundw
            case rel =>
              obtain ⟨a1, a2, a3, a4, b1, rfl, b2⟩ := HREL.out
              exact ⟨a1, a2, a3, a4, b1, b2⟩
            case measure =>
              obtain ⟨a1, a2, a3, a4, b1, rfl, b2⟩ := HREL.out
              rw [b1.left_eq, HGR.out.left_eq]; exact hlt
          | some j =>
            rw [hao] at hHx hplain
            obtain ⟨u, hu, hRu⟩ := hHx
            rw [hu] at hlook
            simp only [Option.getD_some, Option.isSome_some, if_true] at hlook
            rcases map_or j with ⟨ka, va, rfl⟩ | hnj
            · have hRu0 := hRu
              unfold Rep at hRu0
              obtain ⟨b1, m1, us1, rfl, _⟩ := hRu0
              rcases map_or v with ⟨kb, vb, rfl⟩ | hnv
              · have hRc0 := hRc
                unfold Rep at hRc0
                obtain ⟨b2, m2, us2, rfl, _⟩ := hRc0
                have hq1 := jparts_mem (at_mem hao).2
                have hq2 := jparts_mem (at_mem hav).2
                have hIH := ih ka va kb vb w3 _ b1 b2 (by simp only [J.parts] at hN hq2 ⊢; omega) (by simp only [J.parts] at hp1 hq1 ⊢; omega) (by simp only [J.parts] at hp2 hq2 ⊢; omega) hRu (hRc.more (fun b hb => Or.inl hb))
                have hrw3 : r < w3.heap.size := Nat.lt_of_lt_of_le hrw hg3.size
                have hrest : ∀ w5 x', Below w3.heap.size w3 w5 → Rep w5 (fun b => ((S b ∧ b < w.heap.size) ∨ (w.heap.size < b ∧ b ≠ r)) ∨ w3.heap.size ≤ b) (meld (.map ka va) (.map kb vb)) x' →
                    ∃ o, (Instr.mapUpdate 42 (.map (some w.heap.size)) (.string x) x').run Tryd.prog w5 = .ok () (Go.ChangeMaps.setBlock w5 w.heap.size o) ∧
                    (∃ (left : Lit → Bool) (cnt n' : Nat) (m' : ByteArray → Option Value), (Go.ChangeMaps.setBlock w5 w.heap.size o).ranges Tryd.prog 9 heldR br r ks'.length D left cnt ∧ cnt = cnt1 ∧ MapIs (Go.ChangeMaps.setBlock w5 w.heap.size o) w.heap.size n' m' ∧ Below w.heap.size w (Go.ChangeMaps.setBlock w5 w.heap.size o) ∧ r < (Go.ChangeMaps.setBlock w5 w.heap.size o).heap.size ∧
                      ∀ s, Has (Go.ChangeMaps.setBlock w5 w.heap.size o) (fun b => (S b ∧ b < w.heap.size) ∨ (w.heap.size < b ∧ b ≠ r)) (tgt ks vs ks' vs' left s) (m' s)) := fun w5 x' hB5 hR5 => by
                  have hm5 : MapIs w5 w.heap.size n' m' := hm3.of_block (hB5.block _ hm3.lt)
                  obtain ⟨o, hput, hm6⟩ := hm5.put Tryd.underlying42 Tryd.underlying9 e2 x'
                  have hg5 : w3.grownBy w5 none := below_grown hB5
                  have hg6 := grown_set_block w5 w.heap.size o
                  have hk5 : ∀ b, ((S b ∧ b < w.heap.size) ∨ (w.heap.size < b ∧ b ≠ r)) → b < w3.heap.size → (Go.ChangeMaps.setBlock w5 w.heap.size o).heap[b]? = w3.heap[b]? := fun b hb hlt => (hg6.block b (Nat.lt_of_lt_of_le hlt hg5.size) (fun e => by have := Option.some.inj e; omega)).trans (hB5.block b hlt)
                  have hrg6 := (hrg1.kept hg5 (by simp) (by simp)).kept hg6 (fun e => by have := Option.some.inj e; have := hMR.lt; omega) (fun e => by have := Option.some.inj e; omega)
                  rw [← hlen2] at hrg6
                  have hbw5 : Below w.heap.size w w5 := hbw3.trans (hB5.mono hbw3.size)
                  refine ⟨o, hput, _, cnt1, _, _, hrg6, rfl, hm6, hbw5.grown hg6 hbw5.size (fun k hk => by cases hk; exact Nat.le_refl _), Nat.lt_of_lt_of_le (Nat.lt_of_lt_of_le hrw3 hg5.size) hg6.size, fun s => tgt_step hav hlx hH3 hk5 (Nat.le_trans hg5.size hg6.size) ?_ s⟩
                  rw [hao]
                  exact (hR5.more (fun b hb => by rcases hb with hb | hb; exact hb; exact Or.inr (by omega))).keep (fun _ h => h) (fun b hb hlt => hg6.block b hlt (fun e => by have := Option.some.inj e; omega)) hg6.size
                have HREST := Lib.hid hrest
                have HIH := Lib.hid hIH
                have HGR := Lib.hid hrg
                clear hplain hH3 hRc hH hrg hrg1 hRu hrest hIH
                go_wp2_with (go_at_call 28; refine HIH.out.mono ?_; rintro e w5 ⟨x', rfl, hB5, hR5⟩; obtain ⟨o, hput, hrel⟩ := HREST.out w5 x' hB5 hR5; have HREL := Lib.hid hrel; clear hrel hR5)
                go_roundw
                case rel =>
                  obtain ⟨a1, a2, a3, a4, b1, rfl, b2⟩ := HREL.out
                  exact ⟨a1, a2, a3, a4, b1, b2⟩
                case measure =>
                  obtain ⟨a1, a2, a3, a4, b1, rfl, b2⟩ := HREL.out
                  rw [b1.left_eq, HGR.out.left_eq]; exact hlt
              · have hta := ta_map_rep hRc hnv
                obtain ⟨o, hput, hrel⟩ := hplain (meld_other _ _ (fun _ _ _ _ _ h => hnv _ _ h))
                have HREL := Lib.hid hrel
                have HGR := Lib.hid hrg
                clear hrel hplain hH3 hRc hH hrg hrg1 hRu
                go_wp2_with fail
                go_roundw
                case rel =>
                  obtain ⟨a1, a2, a3, a4, b1, rfl, b2⟩ := HREL.out
                  exact ⟨a1, a2, a3, a4, b1, b2⟩
                case measure =>
                  obtain ⟨a1, a2, a3, a4, b1, rfl, b2⟩ := HREL.out
                  rw [b1.left_eq, HGR.out.left_eq]; exact hlt
            · have hta := ta_map_rep hRu hnj
              have hsh := hRu.shape
              obtain ⟨o, hput, hrel⟩ := hplain (meld_other _ _ (fun _ _ _ _ h _ => hnj _ _ h))
              have HREL := Lib.hid hrel
              have HGR := Lib.hid hrg
              clear hrel hplain hH3 hRc hH hrg hrg1 hRu
              rcases hsh with rfl | ⟨ut, uv, rfl⟩
              all_goals
                go_wp2_with fail
                go_roundw
                case rel =>
                  obtain ⟨a1, a2, a3, a4, b1, rfl, b2⟩ := HREL.out
                  exact ⟨a1, a2, a3, a4, b1, b2⟩
                case measure =>
                  obtain ⟨a1, a2, a3, a4, b1, rfl, b2⟩ := HREL.out
                  rw [b1.left_eq, HGR.out.left_eq]; exact hlt
end Go.Proofs.YtpigccnlembfdaaDoor
