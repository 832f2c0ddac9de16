/- The walks of smallbig's numbers without a sign: norm, mulAdd, divW. Conditions: as each theorem states. -/
import Derived.Test.YtejmjkeeakfodaaGreatDoorLimb
import Derived.WalkKit
import Derived.WalkSpells
import Derived.WalkLawsBesides
import Derived.Lib.Hide
import Derived.Deep.Slices
import Derived.Deep.Draws
import Derived.Laws.OwnMore
import Derived.Laws.MakeOwn
import Derived.Laws.NewBlocks
import Derived.Laws.Entries
import Derived.Deep.OwnRows
import Derived.IntWalk
import Derived.WalkSmall
import Derived.Laws.Bits64b
namespace Go.Proofs.YtejmjkeeakfodaaGreatDoor
open Go.RowKit

/-- A slice value that holds these digits. -/
def NatAt (w : World) (v : Value) (L : List Nat) : Prop := ∃ A c, v = .slice A L.length c ∧ L.length ≤ c ∧
  (L ≠ [] → ∃ g, A = some ⟨g, 0, none⟩ ∧ g < w.heap.size ∧ ∀ (i a : Nat), L[i]? = some a → w.cell? ⟨g, i, none⟩ = some (.int .u32 a))
theorem NatAt.below {w w' : World} {v : Value} {L : List Nat} (h : NatAt w v L) (hb : Below w.heap.size w w') : NatAt w' v L := by
  obtain ⟨A, c, e, hc, hx⟩ := h
  refine ⟨A, c, e, hc, fun hn => ?_⟩
  obtain ⟨g, e1, hg, hcell⟩ := hx hn
  exact ⟨g, e1, Nat.lt_of_lt_of_le hg hb.size, fun i a ha => (hb.cell hg).trans (hcell i a ha)⟩
/-- No zero at the top. -/
def Normed (L : List Nat) : Prop := ∀ a, L.getLast? = some a → a ≠ 0

theorem natAt_take {w : World} {A : Option Addr} {L : List Nat} {k c : Nat} (hk : k ≤ L.length) (hc : k ≤ c) (hx : L ≠ [] → ∃ g, A = some ⟨g, 0, none⟩ ∧ g < w.heap.size ∧ ∀ (i a : Nat), L[i]? = some a → w.cell? ⟨g, i, none⟩ = some (.int .u32 a)) : NatAt w (.slice A k c) (L.take k) := by
  have hl : (L.take k).length = k := by rw [List.length_take]; omega
  refine ⟨A, c, by rw [hl], by omega, fun hn => ?_⟩
  obtain ⟨g, e, hg, hcell⟩ := hx (by rintro rfl; simp at hn)
  refine ⟨g, e, hg, fun i a ha => hcell i a ?_⟩
  rw [List.getElem?_take] at ha
  split at ha
  · exact ha
  · cases ha
theorem take_snocN (l : List Nat) (k : Nat) (y : Nat) (h : l[k]? = some y) : l.take (k + 1) = l.take k ++ [y] := by
  obtain ⟨hlt, rfl⟩ := List.getElem?_eq_some_iff.1 h
  rw [List.take_add_one, List.getElem?_eq_getElem hlt]; rfl
/-- What norm leaves. -/
def NormPost (v : Value) (L : List Nat) (w : World) (e : Ending) (w' : World) : Prop := w' = w ∧ ∃ v' k, e = .returned v' ∧ v'.ownBlock = v.ownBlock ∧ k ≤ L.length ∧ NatAt w v' (L.take k) ∧ lval (L.take k) = lval L ∧ Normed (L.take k)

set_option maxRecDepth 100000 in
set_option maxHeartbeats 1000000 in
theorem norm_any (w : World) (v : Value) (L : List Nat) (h : NatAt w v L) (hlen : L.length ≤ 1000000) :
    Calls Tryz.prog 63 #[v] w (NormPost v L w) := by
  obtain ⟨A, c, rfl, hc, hx⟩ := h
  obtain ⟨n, hn⟩ : ∃ n, n = L.length := ⟨_, rfl⟩
  rw [← hn] at hc hlen ⊢
  have HN := Lib.hid hn
  have HX := Lib.hid hx
  clear hx hn
  go_enter Tryz.func63, Tryz.ntmps63
  go_wp2_with fail
  go_loop [0] (fun v' => ∃ k : Nat, k ≤ n ∧ v' = .slice A k c ∧ Hid (lval (L.take k) = lval L)) (fun v' => match v' with | .slice _ k _ => k | _ => 0)
  case atStart => exact ⟨n, Nat.le_refl _, rfl, Lib.hid (by rw [List.take_of_length_le (by have := HN.out; omega)])⟩
  case round =>
    obtain ⟨k, hk, rfl, HV⟩ := hrel
    cases k with
    | zero =>
      go_wp2_with fail
      go_ret
      exact ⟨rfl, _, 0, rfl, by cases A <;> rfl, Nat.zero_le _, natAt_take (Nat.zero_le _) (Nat.zero_le _) HX.out, HV.out, fun a h => by simp at h⟩
    | succ k =>
      obtain ⟨a, ha⟩ : ∃ a, L[k]? = some a := ⟨_, List.getElem?_eq_getElem (by have := HN.out; omega)⟩
      obtain ⟨g, rfl, hg, hcell⟩ := HX.out (by rintro rfl; simp at ha)
      have d0 := hcell k a ha
      clear hcell
      by_cases h0 : a = 0
      · subst h0
        go_wp2_with fail
        refine ⟨⟨k, by omega, rfl, Lib.hid ?_⟩, by simp⟩
        have := HV.out
        rw [take_snocN L k 0 ha, lval_zero] at this
        exact this
      · have h0' : ((a : Int) == 0) = false := by simp; exact h0
        have HA := Lib.hid ha
        have H0 := Lib.hid h0
        clear ha h0
        go_wp2_with fail
        go_ret
        refine ⟨rfl, _, k + 1, rfl, rfl, by have := HN.out; omega, natAt_take (by have := HN.out; omega) (by omega) HX.out, HV.out, fun x hx => ?_⟩
        rw [take_snocN L k a HA.out, List.getLast?_append] at hx
        simp at hx
        rw [← hx]; exact H0.out

def u32v (a : Nat) : Value := .int .u32 a
/-- The row of digits that is being filled from below. -/
def OutN (w : World) (g : Nat) (us : List Nat) (n : Nat) : Prop := w.heap[g]? = some (.cells (us.map u32v ++ List.replicate n (u32v 0)).toArray 79 (0, 0))
theorem made_u32 (n : Nat) : madeCells #[Value.int .u32 0] n = (List.replicate n (u32v 0)).toArray := by
  unfold madeCells
  apply Array.ext
  · simp
  · intro i h1 h2
    simp [Nat.mod_one, u32v]
theorem OutN.cell {w : World} {g n : Nat} {us : List Nat} (h : OutN w g us (n + 1)) : w.cell? ⟨g, us.length, none⟩ = some (.int .u32 0) := by
  rw [cell_of_row w g us.length _ _ _ h]
  simp [List.replicate_succ, u32v]
theorem OutN.frozen {w : World} {g n : Nat} {us : List Nat} (h : OutN w g us n) (i : Nat) : w.frozen? ⟨g, i, none⟩ = false := by
  unfold OutN at h; simp [World.frozen?, h]
theorem OutN.lt {w : World} {g n : Nat} {us : List Nat} (h : OutN w g us n) : g < w.heap.size := (Array.getElem?_eq_some_iff.1 h).1
theorem OutN.set {w : World} {g n : Nat} {us : List Nat} (h : OutN w g us (n + 1)) (a : Nat) : OutN (w.setCell ⟨g, us.length, none⟩ (.int .u32 a)) g (us ++ [a]) n := by
  unfold OutN at h ⊢
  have hl : us.length = (us.map u32v).length := by simp
  simp only [World.setCell, Array.getElem?_modify, h, List.replicate_succ]
  rw [hl]
  simp [u32v]
theorem OutN.nat {w : World} {g : Nat} {us : List Nat} (h : OutN w g us 0) {n : Nat} (hn : n = us.length) : NatAt w (.slice (some ⟨g, 0, none⟩) n n) us := by
  subst hn
  refine ⟨_, _, rfl, Nat.le_refl _, fun _ => ⟨g, rfl, h.lt, fun i a ha => ?_⟩⟩
  rw [cell_of_row w g i _ _ _ h]
  simp [ha, u32v]
theorem info_u32 : (Tryz.prog.info? 79).map (fun i => (i.zero, i.size, i.bytes)) = some (some (Value.int .u32 0), 1, 4) := by kernel_rfl

/-- What mulAdd leaves. -/
def MulPost (L : List Nat) (y r : Nat) (w : World) (e : Ending) (w' : World) : Prop := ∃ v' L', e = .returned v' ∧ Below w.heap.size w w' ∧ NatAt w' v' L' ∧ Limbs L' ∧ Normed L' ∧ lval L' = lval L * y + r ∧ L'.length ≤ L.length + 1 ∧ ∀ g, v'.ownBlock = some g → w.heap.size ≤ g

set_option maxRecDepth 100000 in
set_option maxHeartbeats 1000000 in
theorem mulAdd_any (w : World) (v : Value) (L : List Nat) (y r : Nat) (h : NatAt w v L) (hL : Limbs L) (hlen : L.length ≤ 100000) (hy : y < 4294967296) (hr : r < 4294967296) :
    Calls Tryz.prog 57 #[v, .int .u32 y, .int .u32 r] w (MulPost L y r w) := by
  obtain ⟨A, c, rfl, hc, hx⟩ := h
  obtain ⟨n, hn⟩ : ∃ n, n = L.length := ⟨_, rfl⟩
  rw [← hn] at hc hlen ⊢
  have hmk := fun W : World => run_make_row' (P := Tryz.prog) 46 79 (Value.int .u32 0) 4 Tryz.underlying46 info_u32 rfl .i64 .i64 (n + 1) (by omega) (by omega) W
  have hmk' := fun W : World => by have := hmk W; rw [show ((n + 1 : Nat) : Int) = (n : Int) + 1 by omega] at this; exact this
  have HN := Lib.hid hn
  have HX := Lib.hid hx
  have HL := Lib.hid hL
  clear hx hn hL hmk
  go_enter Tryz.func57, Tryz.ntmps57
  go_wp2_with fail
  go_loopw [8, 19] (fun cv i wr => ∃ (k cc : Nat) (z : List Nat), k ≤ n ∧ cv = .int .u64 cc ∧ i = .int .i64 k ∧ cc < 4294967296 ∧
      Hid (z.length = k ∧ Limbs z ∧ lval z + 4294967296 ^ k * cc = lval (L.take k) * y + r ∧ Below w.heap.size w wr ∧ OutN wr w.heap.size z (n + 1 - k))) (fun _ i _ => n - (intOf i).toNat)
  case atStart =>
    refine ⟨0, r, [], Nat.zero_le _, rfl, rfl, hr, rfl, fun a h => (by cases h), by simp [lval], (Below.refl _ _).alloc (Nat.le_refl _) _, ?_⟩
    have := heap_alloc_new w (.cells (madeCells #[Value.int .u32 0] (n + 1)) 79)
    rw [made_u32] at this ⊢
    simpa [OutN] using this
  case round =>
    obtain ⟨k, cc, z, hk, rfl, rfl, hcc, HF⟩ := hrel
    obtain ⟨hzl, hzL, hzv, hbw, hout⟩ := HF.out
    by_cases hlt : k < n
    · obtain ⟨a, ha⟩ : ∃ a, L[k]? = some a := ⟨_, List.getElem?_eq_getElem (by have := HN.out; omega)⟩
      obtain ⟨g, rfl, hg, hcell⟩ := HX.out (by rintro rfl; simp at ha)
      have hgr := hbw.size
      have d0 : wr.cell? ⟨g, k, none⟩ = some (.int .u32 a) := (hbw.cell hg).trans (hcell k a ha)
      have hab := HL.out a (List.mem_of_getElem? ha)
      have hcarry := carry_lt hcc hab hy
      obtain ⟨p, hp⟩ : ∃ p, p = a * y := ⟨_, rfl⟩
      rw [← hp] at hcarry
      have hpz : (a : Int) * (y : Int) = (p : Int) := by rw [hp]; simp
      have HP := Lib.hid hp
      have HA := Lib.hid ha
      obtain ⟨m, hm⟩ : ∃ m, n + 1 - k = m + 1 := ⟨n - k, by omega⟩
      rw [hm] at hout
      have q0 := hout.cell
      have f0 := hout.frozen z.length
      rw [hzl] at q0 f0
      have hlt0 := hout.lt
      have HM := Lib.hid hm
      obtain ⟨hc1, hc2⟩ := hcarry
      clear hzl hzL hzv hbw hout hcell ha hp hm
      go_wp2_with fail
      have e1 : ((cc : Int) + (p : Int)) / 4294967296 = (((cc + p) / 4294967296 : Nat) : Int) := by omega
      have e2 : ((cc : Int) + (p : Int)) % 4294967296 = (((cc + p) % 4294967296 : Nat) : Int) := by omega
      rw [e1, e2]
      obtain ⟨hzl, hzL, hzv, hbw, hout⟩ := HF.out
      refine ⟨⟨k + 1, (cc + p) / 4294967296, z ++ [(cc + p) % 4294967296], by omega, rfl, by go_num, hc2, Lib.hid ⟨by simp [hzl], fun x hx => ?_, ?_, hbw.setCell (by simp) _, ?_⟩⟩, by simp [intOf]; omega⟩
      · rcases List.mem_append.1 hx with hx | hx
        · exact hzL x hx
        · rw [List.mem_singleton.1 hx]; omega
      · have := mulAdd_step hzl HA.out hzv
        rw [← HP.out] at this
        exact this
      · rw [HM.out] at hout
        have := hout.set ((cc + p) % 4294967296)
        rw [hzl] at this
        rw [show n + 1 - (k + 1) = m by have := HM.out; omega]
        exact this
    · have hkn : k = n := by omega
      have e1 : L.take k = L := List.take_of_length_le (by have := HN.out; omega)
      rw [e1] at hzv
      rw [show n + 1 - k = 0 + 1 by omega] at hout
      have q0 := hout.cell
      have f0 := hout.frozen z.length
      have hset := hout.set cc
      rw [hzl, hkn] at q0 f0 hset
      have hlt0 := hout.lt
      have hnat := hset.nat (n := n + 1) (by simp [hzl, hkn])
      have hNORM := norm_any _ _ _ hnat (by simp [hzl]; omega)
      have hbs := hbw.setCell (p := ⟨w.heap.size, n, none⟩) (by simp) (.int .u32 cc)
      have hval : lval (z ++ [cc]) = lval L * y + r := by rw [lval_snoc, hzl]; exact hzv
      have HNO := Lib.hid hNORM
      have HBS := Lib.hid hbs
      have HVA := Lib.hid hval
      have HZ := Lib.hid (And.intro hzl hzL)
      clear hzl hzL hzv hbw hout hset hnat hNORM hbs hval HF e1
      go_wp2_with (go_at_call 63; refine HNO.out.mono ?_; rintro e w2 ⟨rfl, v', j, rfl, hob, hj, hnt, hlv, hnm⟩)
      go_ret
      refine ⟨v', _, rfl, HBS.out, hnt, fun x hx => ?_, hnm, by rw [hlv]; exact HVA.out, ?_, fun g hg => by rw [hob] at hg; simp [Value.ownBlock] at hg; omega⟩
      · rcases List.mem_append.1 (List.mem_of_mem_take hx) with hx | hx
        · exact HZ.out.2 x hx
        · rw [List.mem_singleton.1 hx]; exact hcc
      · rw [List.length_take]
        have := HZ.out.1
        have := HN.out
        simp; omega

/-- The row of digits that is being filled from above. -/
def OutD (w : World) (g : Nat) (i : Nat) (qs : List Nat) : Prop := w.heap[g]? = some (.cells (List.replicate i (u32v 0) ++ qs.map u32v).toArray 79 (0, 0))
theorem OutD.cell {w : World} {g i : Nat} {qs : List Nat} (h : OutD w g (i + 1) qs) : w.cell? ⟨g, i, none⟩ = some (.int .u32 0) := by
  rw [cell_of_row w g i _ _ _ h]
  have : (List.replicate (i + 1) (u32v 0) ++ qs.map u32v)[i]? = some (u32v 0) := by
    rw [List.getElem?_append_left (by simp)]
    simp
  simpa [u32v] using this
theorem OutD.frozen {w : World} {g i : Nat} {qs : List Nat} (h : OutD w g i qs) (j : Nat) : w.frozen? ⟨g, j, none⟩ = false := by
  unfold OutD at h; simp [World.frozen?, h]
theorem OutD.lt {w : World} {g i : Nat} {qs : List Nat} (h : OutD w g i qs) : g < w.heap.size := (Array.getElem?_eq_some_iff.1 h).1
theorem OutD.set {w : World} {g i : Nat} {qs : List Nat} (h : OutD w g (i + 1) qs) (a : Nat) : OutD (w.setCell ⟨g, i, none⟩ (.int .u32 a)) g i (a :: qs) := by
  unfold OutD at h ⊢
  simp only [World.setCell, Array.getElem?_modify, h, if_true, Option.map_some]
  congr 2
  rw [List.setIfInBounds_toArray]
  congr 1
  rw [List.replicate_succ', List.append_assoc, List.set_append_right _ _ (by simp)]
  simp [u32v]
theorem OutD.nat {w : World} {g : Nat} {qs : List Nat} (h : OutD w g 0 qs) {n : Nat} (hn : n = qs.length) : NatAt w (.slice (some ⟨g, 0, none⟩) n n) qs := by
  subst hn
  refine ⟨_, _, rfl, Nat.le_refl _, fun _ => ⟨g, rfl, h.lt, fun i a ha => ?_⟩⟩
  rw [cell_of_row w g i _ _ _ h]
  simp [ha, u32v]

theorem or_limb (cc a : Nat) (hc : cc < 4294967296) (ha : a < 4294967296) : bits BinOp.or IntKind.u64 ((cc : Int) * 4294967296) (a : Int) = ((cc * 4294967296 + a : Nat) : Int) := by
  have e : (cc : Int) * 4294967296 = ((cc * 4294967296 : Nat) : Int) := by omega
  rw [e, bits_or_u64_nat _ _ (by omega) (by omega)]
  congr 1
  have := Nat.shiftLeft_add_eq_or_of_lt (i := 32) (b := a) (by omega) cc
  rw [Nat.shiftLeft_eq] at this
  exact this.symm

/-- What divW leaves. -/
def DivPost (L : List Nat) (y : Nat) (w : World) (e : Ending) (w' : World) : Prop := ∃ v' L' c, e = .returned (.tuple #[v', .int .u32 (c : Nat)]) ∧ Below w.heap.size w w' ∧ NatAt w' v' L' ∧ Limbs L' ∧ Normed L' ∧ lval L = lval L' * y + c ∧ c < y ∧ L'.length ≤ L.length ∧ ∀ g, v'.ownBlock = some g → w.heap.size ≤ g

set_option maxRecDepth 100000 in
set_option maxHeartbeats 1000000 in
theorem divW_any (w : World) (v : Value) (L : List Nat) (y : Nat) (h : NatAt w v L) (hL : Limbs L) (hlen : L.length ≤ 100000) (hy : y < 4294967296) (hy0 : 0 < y) :
    Calls Tryz.prog 52 #[v, .int .u32 y] w (DivPost L y w) := by
  obtain ⟨A, c, rfl, hc, hx⟩ := h
  obtain ⟨n, hn⟩ : ∃ n, n = L.length := ⟨_, rfl⟩
  rw [← hn] at hc hlen ⊢
  have hmk := fun W : World => run_make_row' (P := Tryz.prog) 46 79 (Value.int .u32 0) 4 Tryz.underlying46 info_u32 rfl .i64 .i64 n (by omega) (by omega) W
  have HN := Lib.hid hn
  have HX := Lib.hid hx
  have HL := Lib.hid hL
  clear hx hn hL
  go_enter Tryz.func52, Tryz.ntmps52
  go_wp2_with fail
  go_loopw [7, 8] (fun cv i wr => ∃ (m cc : Nat) (qs : List Nat), m ≤ n ∧ cv = .int .u64 cc ∧ i = .int .i64 ((m : Int) - 1) ∧ cc < y ∧
      Hid (qs.length = n - m ∧ Limbs qs ∧ lval (L.drop m) = lval qs * y + cc ∧ Below w.heap.size w wr ∧ OutD wr w.heap.size m qs)) (fun _ i _ => (intOf i + 1).toNat)
  case atStart =>
    refine ⟨n, 0, [], Nat.le_refl _, rfl, rfl, hy0, by simp, fun a h => (by cases h), ?_, (Below.refl _ _).alloc (Nat.le_refl _) _, ?_⟩
    · rw [HN.out, List.drop_length]; simp [lval]
    · have := heap_alloc_new w (.cells (madeCells #[Value.int .u32 0] n) 79)
      rw [made_u32] at this ⊢
      simpa [OutD] using this
  case round =>
    obtain ⟨m, cc, qs, hm, rfl, rfl, hcc, HF⟩ := hrel
    obtain ⟨hql, hqL, hqv, hbw, hout⟩ := HF.out
    cases m with
    | zero =>
      rw [List.drop_zero] at hqv
      have hnat := hout.nat (n := n) (by omega)
      have hNORM := norm_any _ _ _ hnat (by omega)
      have HNO := Lib.hid hNORM
      have HQ := Lib.hid (And.intro hql (And.intro hqL (And.intro hqv hbw)))
      clear hql hqL hqv hbw hout hnat hNORM HF
      have hcc3 : cc < 4294967296 := by omega
      go_wp2_with (go_at_call 63; refine HNO.out.mono ?_; rintro e w2 ⟨rfl, v', j, rfl, hob, hj, hnt, hlv, hnm⟩)
      go_ret2
      obtain ⟨hql, hqL, hqv, hbw⟩ := HQ.out
      refine ⟨v', _, cc, rfl, hbw, hnt, fun z hz => hqL z (List.mem_of_mem_take hz), hnm, by rw [hlv]; exact hqv, hcc, by rw [List.length_take]; have := HN.out; omega, fun g hg => by rw [hob] at hg; simp [Value.ownBlock] at hg; omega⟩
    | succ m =>
      obtain ⟨a, ha⟩ : ∃ a, L[m]? = some a := ⟨_, List.getElem?_eq_getElem (by have := HN.out; omega)⟩
      obtain ⟨g, rfl, hg, hcell⟩ := HX.out (by rintro rfl; simp at ha)
      have hgr := hbw.size
      have d0 : wr.cell? ⟨g, m, none⟩ = some (.int .u32 a) := (hbw.cell hg).trans (hcell m a ha)
      have hab := HL.out a (List.mem_of_getElem? ha)
      have q0 := hout.cell
      have f0 := hout.frozen m
      have hlt0 := hout.lt
      have HA := Lib.hid ha
      clear hql hqL hqv hbw hout hcell ha
      have hor := or_limb cc a (by omega) hab
      obtain ⟨x, hxx⟩ : ∃ x, x = cc * 4294967296 + a := ⟨_, rfl⟩
      rw [← hxx] at hor
      have hx64 : x ≤ 18446744073709551615 := by omega
      have hcc2 : cc ≤ 4294967295 := by omega
      have hql2 := quot_lt hcc hab
      rw [← hxx] at hql2
      have hquo : IntKind.u64.wrap ((x : Int).tdiv (y : Int)) = ((x / y : Nat) : Int) := by
        rw [IntWalk.u64_quo _ _ (by omega)]; simp
      have hrem : (x : Int).tmod (y : Int) = ((x % y : Nat) : Int) := by rw [IntWalk.rem_in _ _ (by omega)]; simp
      have hy64 : ¬ ((y : Int) = 0) := by omega
      have HXX := Lib.hid hxx
      clear hxx
      go_wp2_with fail
      have e0 : (x : Int) / (y : Int) = ((x / y : Nat) : Int) := by simp
      have e1 : IntKind.u64.wrap ((x : Int) / (y : Int)) % 4294967296 = ((x / y : Nat) : Int) := by
        have hw : ∀ qq : Nat, qq < 4294967296 → IntKind.u64.wrap (qq : Int) % 4294967296 = (qq : Int) := fun qq h => by rw [IntWalk.u64_in _ (by omega)]; omega
        rw [e0]; exact hw _ hql2
      have e2 : (x : Int) % (y : Int) = ((x % y : Nat) : Int) := by simp
      rw [e1, e2]
      obtain ⟨hql, hqL, hqv, hbw, hout⟩ := HF.out
      have hstep := divW_step HA.out hqv
      rw [← HXX.out] at hstep
      refine ⟨⟨m, x % y, (x / y) :: qs, by omega, rfl, rfl, Nat.mod_lt _ hy0, Lib.hid ⟨by simp [hql]; omega, fun z hz => ?_, hstep, hbw.setCell (by simp) _, hout.set (x / y)⟩⟩, by simp [intOf]⟩
      rcases List.mem_cons.1 hz with rfl | hz
      · exact hql2
      · exact hqL z hz
end Go.Proofs.YtejmjkeeakfodaaGreatDoor
