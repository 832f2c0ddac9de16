/- The encoder over a limited writer at arrays and objects. Conditions: as each theorem states. -/
import Derived.Test.YtpigccnlembfdaaGreatDoorPvH
import Derived.Test.YtpigccnlembfdaaGreatDoorPvI
import Derived.Laws.MakeOwn
import Derived.Maps.Ext
import Derived.WalkKit
import Derived.Laws.IdiomRangeMap

/- The row of keys and values that the encoder fills. Conditions: none. -/
namespace Go.Proofs.YtpigccnlembfdaaGreatDoor
open Go.RowKit Go.Sort Go.Maps

def zeroKV (r : Nat) : List Value := (List.replicate r [Value.string ⟨#[]⟩, Value.nilIface]).flatten
theorem zeroKV_succ (r : Nat) : zeroKV (r + 1) = [Value.string ⟨#[]⟩, Value.nilIface] ++ zeroKV r := by simp [zeroKV, List.replicate_succ]
theorem zeroKV_snoc (r : Nat) : zeroKV (r + 1) = zeroKV r ++ [Value.string ⟨#[]⟩, Value.nilIface] := by simp [zeroKV, List.replicate_succ']
theorem made_kv (n : Nat) : madeCells #[Value.string ⟨#[]⟩, Value.nilIface] (n * 2) = (zeroKV n).toArray := by
  apply Array.ext'
  unfold madeCells
  rw [Array.toList_map, Array.toList_range]
  induction n with
  | zero => simp [zeroKV]
  | succ n ih =>
    rw [show (n + 1) * 2 = n * 2 + 1 + 1 by omega, List.range_succ, List.range_succ, List.map_append, List.map_append, ih, zeroKV_snoc]
    have e0 : (n * 2) % 2 = 0 := by omega
    have e1 : (n * 2 + 1) % 2 = 1 := by omega
    simp [e0, e1]
/-- The row: these pairs, then zero values. -/
def KvRow (w : World) (K : Nat) (ps : List (ByteArray × Value)) (r : Nat) : Prop := w.heap[K]? = some (.cells (ps.flatMap encKV ++ zeroKV r).toArray 140 (0, 0))
theorem flat_len : ∀ ps : List (ByteArray × Value), (ps.flatMap encKV).length = ps.length * 2
  | [] => rfl
  | p :: r => by rw [List.flatMap_cons, List.length_append, flat_len r]; simp [encKV]; omega
theorem flat_get : ∀ (ps : List (ByteArray × Value)) (j : Nat), j < ps.length * 2 → (ps.flatMap encKV)[j]? = some ((encKV ps[j / 2]!)[j % 2]!)
  | [], j, h => by simp at h
  | p :: r, 0, _ => by simp [encKV]
  | p :: r, 1, _ => by simp [encKV]
  | p :: r, j + 2, h => by
    have ih := flat_get r j (by simp at h; omega)
    have e : (p :: r).flatMap encKV = (encKV p)[0]! :: (encKV p)[1]! :: r.flatMap encKV := by rw [List.flatMap_cons]; simp [encKV]
    rw [e, List.getElem?_cons_succ, List.getElem?_cons_succ, ih, show (j + 2) / 2 = j / 2 + 1 by omega, show (j + 2) % 2 = j % 2 by omega]
    simp
section
variable {w : World} {K r : Nat} {ps : List (ByteArray × Value)}
theorem KvRow.lt (h : KvRow w K ps r) : K < w.heap.size := (Array.getElem?_eq_some_iff.1 h).1
theorem KvRow.frozen (h : KvRow w K ps r) (i : Nat) : w.frozen? ⟨K, i, none⟩ = false := by unfold KvRow at h; simp [World.frozen?, h]
theorem KvRow.new (w : World) (n : Nat) : KvRow (w.alloc (.cells (madeCells #[Value.string ⟨#[]⟩, Value.nilIface] (n * 2)) 140)) w.heap.size [] n := by
  unfold KvRow
  rw [made_kv]
  exact heap_alloc_new w _
theorem KvRow.same {w' : World} (h : KvRow w K ps r) (hb : w'.heap[K]? = w.heap[K]?) : KvRow w' K ps r := hb.trans h
/-- The two cells behind the pairs. -/
theorem KvRow.cell0 (h : KvRow w K ps (r + 1)) : w.cell? ⟨K, ps.length * 2, none⟩ = some (.string ⟨#[]⟩) := by
  rw [cell_of_row w K _ _ _ _ h, List.getElem?_toArray, List.getElem?_append_right (by rw [flat_len]; omega), flat_len, zeroKV_succ]; simp
theorem KvRow.cell1 (h : KvRow w K ps (r + 1)) : w.cell? ⟨K, ps.length * 2 + 1, none⟩ = some .nilIface := by
  rw [cell_of_row w K _ _ _ _ h, List.getElem?_toArray, List.getElem?_append_right (by rw [flat_len]; omega), flat_len, zeroKV_succ, show ps.length * 2 + 1 - ps.length * 2 = 1 by omega]; simp
theorem KvRow.put (h : KvRow w K ps (r + 1)) (x : ByteArray) (c : Value) (hc : c.oneCell' = true) : KvRow ((w.setCell ⟨K, ps.length * 2, none⟩ (.string x)).setCell ⟨K, ps.length * 2 + 1, none⟩ c) K (ps ++ [(x, c)]) r := by
  unfold KvRow at h ⊢
  have e : ∀ l : List Value, (ps.flatMap encKV ++ zeroKV (r + 1)).length = l.length → True := fun _ _ => trivial
  clear e
  have hl := flat_len ps
  rw [zeroKV_succ] at h
  simp only [World.setCell, Array.getElem?_modify, if_true, h, Option.map_some]
  congr 2
  apply Array.ext'
  simp only [Option.isSome_none, Bool.false_eq_true, if_false, Array.toList_setIfInBounds]
  rw [List.flatMap_append, List.flatMap_cons, List.flatMap_nil, List.append_nil, encKV_of (p := (x, c)) hc, List.set_append, if_neg (by omega), hl, Nat.sub_self, List.set_append, if_neg (by omega), hl, show ps.length * 2 + 1 - ps.length * 2 = 1 by omega]
  simp
theorem KvRow.holds (h : KvRow w K ps 0) : HoldsK encKV 2 w K 0 ps.toArray := by
  intro j hj
  have hj' : j < ps.length * 2 := by simpa using hj
  refine ⟨?_, ?_⟩
  · rw [Nat.zero_add, cell_of_row w K _ _ _ _ h, get_flatK _ _ _ _ (by simpa using hj'), List.getElem?_toArray, List.getElem?_append_left (by rw [flat_len]; exact hj'), flat_get ps j hj']
    simp
  · exact h.frozen _
end
theorem holdsK_same {w w' : World} {K : Nat} {d : Array (ByteArray × Value)} (h : HoldsK encKV 2 w K 0 d) (hb : w'.heap[K]? = w.heap[K]?) : HoldsK encKV 2 w' K 0 d := fun j hj => by
  obtain ⟨h1, h2⟩ := h j hj
  refine ⟨(World.cell?_of_block hb).trans h1, ?_⟩
  rw [← h2]
  simp [World.frozen?, hb]
theorem holdsK_at {w : World} {K k : Nat} {ks : List ByteArray} {us : List Value} (h : HoldsK encKV 2 w K 0 (ks.zip us).toArray) {s : ByteArray} {u : Value} (hs : ks[k]? = some s) (hu : us[k]? = some u) (h1 : u.oneCell' = true) :
    w.cell? ⟨K, k * 2, none⟩ = some (.string s) ∧ w.cell? ⟨K, k * 2 + 1, none⟩ = some u := by
  have hk1 := (List.getElem?_eq_some_iff.1 hs).1
  have hk2 := (List.getElem?_eq_some_iff.1 hu).1
  have hz : (ks.zip us)[k]? = some (s, u) := by rw [List.getElem?_zip_eq_some]; exact ⟨hs, hu⟩
  have hk : k < (ks.zip us).toArray.size := by simp; omega
  have e : (ks.zip us).toArray[k]! = (s, u) := by
    rw [getElem!_pos _ k hk]
    have := (List.getElem?_eq_some_iff.1 hz).2
    simpa using this
  have c0 := (h.cell (i := k) (c := 0) hk (by decide)).1
  have c1 := (h.cell (i := k) (c := 1) hk (by decide)).1
  rw [e, encKV_of (p := (s, u)) h1] at c0 c1
  simp only [Nat.zero_add, Nat.add_zero] at c0 c1
  exact ⟨c0, c1⟩
theorem StL.on {w w' : World} {B b g E : Nat} {bs : List UInt8} (h : StL w B b g E bs) (hb : Below w.heap.size w w') : StL w' B b g E bs := by
  obtain ⟨r, hE⟩ := h.enc
  exact ⟨h.lim.keep (grown_of_below hb none) (by simp) (by simp), ⟨r, hE.below hb⟩, h.lb, h.lg, h.lE, Nat.le_trans h.le hb.size, h.neb, h.neg⟩
theorem StL.beside {w w' : World} {B b g E k : Nat} {bs : List UInt8} (h : StL w B b g E bs) (hg : w.grownBy w' (some k)) (h1 : k ≠ b) (h2 : k ≠ g) (h3 : k ≠ E) : StL w' B b g E bs := by
  obtain ⟨r, hE⟩ := h.enc
  exact ⟨h.lim.keep hg (fun e => h1 (Option.some.inj e)) (fun e => h2 (Option.some.inj e)), ⟨r, hE.same (hg.block E hE.lt (fun e => h3 (Option.some.inj e).symm))⟩, h.lb, h.lg, h.lE, Nat.le_trans h.le hg.size, h.neb, h.neg⟩
/-- A block that was not there at first is turned: nothing of what is kept. -/
theorem KB.turn {w w1 w2 : World} {B b g E k : Nat} (h : KB B b g E w w1) (hg : w1.grownBy w2 (some k)) (hk : w.heap.size ≤ k) (hB : B ≤ w.heap.size) : KB B b g E w w2 :=
  ⟨h.below.trans ((Below.refl B w1).grown hg (Nat.le_trans hB h.below.size) (fun q hq => by injection hq with hq; omega)), fun i hi h1 h2 h3 => (hg.block i (Nat.lt_of_lt_of_le hi h.below.size) (fun e => by have := Option.some.inj e; omega)).trans (h.keep i hi h1 h2 h3)⟩
theorem keyed_len (s : ByteArray) (t : List UInt8) : 3 ≤ (keyed s t).length := by
  unfold keyed; simp; omega
theorem commas_ge4 : ∀ l : List (List UInt8), (∀ t ∈ l, 3 ≤ t.length) → 4 * l.length ≤ (commas l).length + 1
  | [], _ => by simp
  | [t], h => by have := h t (by simp); simp [commas]; omega
  | t :: b :: r, h => by
    have h1 := h t (by simp)
    have := commas_ge4 (b :: r) (fun t ht => h t (List.mem_cons_of_mem _ ht))
    simp only [commas, List.length_append, List.length_cons] at this ⊢
    omega
theorem keyed_ge4 (ks : List ByteArray) (ts : List (List UInt8)) (h : ts.length = ks.length) : 4 * ks.length ≤ (commas (List.zipWith keyed ks ts)).length + 1 := by
  have := commas_ge4 (List.zipWith keyed ks ts) (fun t ht => by
    obtain ⟨i, hi, rfl⟩ := List.getElem_of_mem ht
    rw [List.getElem_zipWith]
    exact keyed_len _ _)
  rw [List.length_zipWith, h, Nat.min_self] at this
  exact this
theorem str_inj {a b : ByteArray} (h : a.data.toList = b.data.toList) : a = b := by
  cases a; cases b; simpa using h
/-- What stands under a key of a datum, as the step of a range tells it. -/
theorem mapOf_at {D : DataW Value} {s : ByteArray} {c : Value} {y : DataW Value × List MemPlace} (hv : heldR c = some y) (hat : ∀ zd, D.atKey (.string s.data.toList) zd = y.1) : mapOf D s = some c := by
  unfold heldR at hv
  cases hv
  unfold mapOf
  rw [hat]
/-- The pairs that a range has handed out. -/
structure Seen (D : DataW Value) (left : Lit → Bool) (ps : List (ByteArray × Value)) : Prop where
  mem : ∀ s v, (s, v) ∈ ps ↔ left (.string s.data.toList) = false ∧ mapOf D s = some v
  nodup : (ps.map (·.1)).Nodup
theorem Seen.start (D : DataW Value) : Seen D (Maps.has D) [] where
  mem s v := by
    constructor
    · intro h; cases h
    · rintro ⟨h1, h2⟩
      unfold mapOf at h2
      rw [atKey_of_not_has h1] at h2
      cases h2
  nodup := by simp
theorem Seen.step {D : DataW Value} {left : Lit → Bool} {ps : List (ByteArray × Value)} (h : Seen D left ps) {x : ByteArray} {c : Value} (hl : left (.string x.data.toList) = true) (hc : mapOf D x = some c) :
    Seen D (fun z => left z && !z.sameKey (.string x.data.toList)) (ps ++ [(x, c)]) where
  mem s v := by
    rw [List.mem_append, List.mem_singleton]
    by_cases e : s = x
    · subst e
      constructor
      · rintro (h1 | h1)
        · have := (h.mem s v).1 h1; rw [hl] at this; cases this.1
        · cases h1
          exact ⟨by simp [WideAt.sameKey_self (show WideAt.IsKeyLit (.string s.data.toList) by trivial)], hc⟩
      · rintro ⟨_, h2⟩
        rw [hc] at h2
        cases h2
        exact Or.inr rfl
    · have hs : (Lit.string s.data.toList).sameKey (.string x.data.toList) = false := sameKey_ne (fun h => e (str_inj (by injection h)))
      constructor
      · rintro (h1 | h1)
        · obtain ⟨h2, h3⟩ := (h.mem s v).1 h1
          exact ⟨by simp [h2], h3⟩
        · cases h1; exact absurd rfl e
      · rintro ⟨h2, h3⟩
        simp only [hs, Bool.not_false, Bool.and_true] at h2
        exact Or.inl ((h.mem s v).2 ⟨h2, h3⟩)
  nodup := by
    rw [List.map_append, List.nodup_append]
    refine ⟨h.nodup, by simp, fun a ha b hb => ?_⟩
    simp only [List.map_cons, List.map_nil, List.mem_singleton] at hb
    subst hb
    rintro rfl
    obtain ⟨⟨s, v⟩, hp, rfl⟩ := List.mem_map.1 ha
    have := (h.mem s v).1 hp
    rw [hl] at this; cases this.1
/-- All have been handed out. -/
theorem Seen.done {D : DataW Value} {left : Lit → Bool} {ps : List (ByteArray × Value)} (h : Seen D left ps) (h0 : ∀ k, left k = false) {ks : List ByteArray} {us : List Value} (hr : Rising ks) (hl : ks.length = us.length) (hm : ∀ s v, mapOf D s = some v ↔ ∃ i : Nat, ks[i]? = some s ∧ us[i]? = some v) : ps.Perm (ks.zip us) := by
  letI : DecidableEq (ByteArray × Value) := fun a b => Classical.propDecidable (a = b)
  have hnd : ps.Nodup := List.Pairwise.of_map (·.1) (fun a b h e => h (congrArg _ e)) h.nodup
  have hkn : (ks.zip us).Nodup := by
    rw [List.nodup_iff_pairwise_ne, List.pairwise_iff_getElem]
    intro i j hi hj hij e
    rw [List.length_zip] at hi hj
    simp only [List.getElem_zip] at e
    have e1 := congrArg (·.1) e
    have := hr.inj (i := i) (j := j) (s := ks[i]) (List.getElem?_eq_getElem (by omega)) (by simp only at e1; rw [e1]; exact List.getElem?_eq_getElem (by omega))
    omega
  refine (List.perm_ext_iff_of_nodup hnd hkn).2 fun ⟨s, v⟩ => ?_
  rw [h.mem, hm]
  constructor
  · rintro ⟨_, i, h1, h2⟩
    refine List.mem_of_getElem? (i := i) ?_
    rw [List.getElem?_zip_eq_some]
    exact ⟨h1, h2⟩
  · intro hp
    obtain ⟨i, hi, e⟩ := List.getElem_of_mem hp
    rw [List.length_zip] at hi
    simp only [List.getElem_zip] at e
    injection e with e1 e2
    exact ⟨h0 _, i, by rw [← e1]; exact List.getElem?_eq_getElem (by omega), by rw [← e2]; exact List.getElem?_eq_getElem (by omega)⟩
end Go.Proofs.YtpigccnlembfdaaGreatDoor

/- The walk of encodeArray over a limited writer, whatever its elements, where the text fits. Conditions: as the theorem states. -/
namespace Go.Proofs.YtpigccnlembfdaaGreatDoor
open Go.RowKit Go.Deep

/-- A row of values below block B. -/
def RowU (w : World) (B : Nat) (A : Option Addr) (us : List Value) : Prop := us ≠ [] → ∃ ad, A = some ad ∧ ad.block < B ∧ ∀ (i : Nat) (u : Value), us[i]? = some u → w.cell? (ad.add i) = some u
theorem commas_ge : ∀ l : List (List UInt8), l.length ≤ (commas l).length + 1
  | [] => by simp
  | [t] => by simp
  | t :: b :: r => by
    have := commas_ge (b :: r)
    simp only [commas, List.length_append, List.length_cons] at this ⊢
    omega
set_option maxRecDepth 100000 in
set_option maxHeartbeats 4000000 in
theorem encodeArr_any (w : World) (B b g E : Nat) (bs : List UInt8) (A : Option Addr) (c n : Nat) (us : List Value) (ts : List (List UInt8)) (h : StL w B b g E bs) (hr : RowU w B A us) (hlu : us.length = n) (hlt : ts.length = n)
    (hl : bs.length + (91 :: (commas ts ++ [93])).length < 32)
    (hel : ∀ (i : Nat) (u : Value) (t : List UInt8) (w' : World) (bs' : List UInt8), us[i]? = some u → ts[i]? = some t → KB B b g E w w' → StL w' B b g E bs' → bs'.length + t.length < 32 →
      Calls Tryz.prog 49 #[.pointer (some ⟨E, 0, none⟩), u] w' (EncLPost B b g E bs' t w')) :
    Calls Tryz.prog 69 #[.pointer (some ⟨E, 0, none⟩), .slice A n c] w (EncLPost B b g E bs (91 :: (commas ts ++ [93])) w) := by
  simp only [List.length_cons, List.length_append, List.length_nil] at hl
  have hn31 : n ≤ 31 := by have := commas_ge ts; omega
  obtain ⟨r0, hE⟩ := h.enc
  have eE := hE.cell0
  have hltE := hE.lt
  have HWB : Hid (Calls Tryz.prog 191 #[.pointer (some ⟨b, 0, none⟩), .int .u8 91] w (fun e w' => e = .returned .nilIface ∧ LimPost B b g (bs ++ [91]) w w')) := Lib.hid (limByte_any w B b g bs 91 h.lim (by omega) h.lb h.lg h.le)
  have HST := Lib.hid h
  have HLEN : Hid (∀ (k : Nat) (t : List UInt8), ts[k]? = some t → (bs ++ 91 :: commas (ts.take k)).length + (if k = 0 then [] else [44] : List UInt8).length + t.length < 32) := Lib.hid fun k t ht => by
    have h1 := commas_take ts k t ht
    have h2 := commas_len_take ts (k + 1)
    rw [h1, List.length_append, List.length_append] at h2
    simp only [List.length_append, List.length_cons]; omega
  have HL := Lib.hid hl
  have HR := Lib.hid hr
  have HEL := Lib.hid hel
  have HLU := Lib.hid (And.intro hlu hlt)
  clear h hr hel hlu hlt hE hl
  go_enter Tryz.func69, Tryz.ntmps69
  go_wp2_with fail
  refine HWB.out.mono ?_
  rintro e w1 ⟨rfl, hp⟩
  have HF := Lib.hid (HST.out.write hp)
  clear hp eE hltE
  go_wp2_with fail
  go_loopw [13] (fun iv wr => ∃ k : Nat, k ≤ n ∧ iv = .int .i64 k ∧ Hid (StL wr B b g E (bs ++ 91 :: commas (ts.take k)) ∧ KB B b g E w wr)) (fun iv _ => n - (intOf iv).toNat)
  case atStart => exact ⟨0, Nat.zero_le _, rfl, Lib.hid ⟨by simpa [commas] using HF.out.1, HF.out.2⟩⟩
  case round =>
    obtain ⟨k, hk, rfl, HRR⟩ := hrel
    obtain ⟨rr, hEr⟩ := HRR.out.1.enc
    have eE := hEr.cell0
    have hltE := hEr.lt
    clear hEr
    by_cases hkn : k < n
    · obtain ⟨u, hu⟩ : ∃ u, us[k]? = some u := ⟨_, List.getElem?_eq_getElem (by have := HLU.out.1; omega)⟩
      obtain ⟨t, ht⟩ : ∃ t, ts[k]? = some t := ⟨_, List.getElem?_eq_getElem (by have := HLU.out.2; omega)⟩
      obtain ⟨ad, rfl, had, hcu⟩ := HR.out (by rintro rfl; simp at hu)
      have d0 : wr.cell? (ad.add k) = some u := (HRR.out.2.cell (by rw [block_of_add]; exact had)).trans (hcu k u hu)
      have hlen := HLEN.out k t ht
      have HT := Lib.hid (And.intro hu (And.intro ht (commas_take ts k t ht)))
      clear hcu hu ht
      by_cases hk0 : k = 0
      · subst hk0
        rw [if_pos rfl] at hlen
        rw [show ad.add 0 = ad by unfold Addr.add; simp] at d0
        have HE := Lib.hid (HEL.out 0 u t wr _ HT.out.1 HT.out.2.1 HRR.out.2 HRR.out.1 (by simp only [List.length_nil] at hlen; omega))
        clear hlen
        go_wp2_with fail
        refine HE.out.mono ?_
        rintro e w3 ⟨rfl, hp⟩
        have HP := Lib.hid hp
        clear hp d0 eE hltE
        go_wp2_with fail
        go_roundw
        case rel =>
          refine ⟨1, by omega, by go_num, Lib.hid ⟨?_, HRR.out.2.trans HP.out.2⟩⟩
          have h1 := HP.out.1
          have h2 := HT.out.2.2
          simp only [if_true, List.append_nil, Nat.zero_add] at h2
          rw [List.append_assoc, List.cons_append, ← h2] at h1
          exact h1
        case measure => simp [intOf]; omega
      · have hkz : (0 : Int) < (k : Int) := by omega
        rw [if_neg hk0] at hlen
        simp only [List.length_cons, List.length_nil] at hlen
        have HWC : Hid (Calls Tryz.prog 191 #[.pointer (some ⟨b, 0, none⟩), .int .u8 44] wr (fun e w' => e = .returned .nilIface ∧ LimPost B b g ((bs ++ 91 :: commas (ts.take k)) ++ [44]) wr w')) := Lib.hid (limByte_any wr B b g _ 44 HRR.out.1.lim (by omega) HRR.out.1.lb HRR.out.1.lg HRR.out.1.le)
        go_wp2_with fail
        refine HWC.out.mono ?_
        rintro e w2 ⟨rfl, hp⟩
        have HP2 := Lib.hid (HRR.out.1.write hp)
        have HE := Lib.hid (HEL.out k u t w2 _ HT.out.1 HT.out.2.1 (HRR.out.2.trans HP2.out.2) HP2.out.1 (by simp only [List.length_append, List.length_cons, List.length_nil] at hlen ⊢; omega))
        clear hp d0 eE hltE hlen
        go_wp2_with fail
        refine HE.out.mono ?_
        rintro e w3 ⟨rfl, hp⟩
        have HP := Lib.hid hp
        have HK0 := Lib.hid hk0
        clear hp hk0
        go_wp2_with fail
        go_roundw
        case rel =>
          refine ⟨k + 1, by omega, by go_num, Lib.hid ⟨?_, (HRR.out.2.trans HP2.out.2).trans HP.out.2⟩⟩
          have h1 := HP.out.1
          have h2 := HT.out.2.2
          rw [if_neg HK0.out] at h2
          rw [List.append_assoc, List.append_assoc, List.cons_append, ← List.append_assoc (commas _), ← h2] at h1
          exact h1
        case measure => simp [intOf]; omega
    · obtain rfl : k = n := by omega
      have HTK : Hid (ts.take k = ts) := Lib.hid (List.take_of_length_le (by have := HLU.out.2; omega))
      have HWC : Hid (Calls Tryz.prog 191 #[.pointer (some ⟨b, 0, none⟩), .int .u8 93] wr (fun e w' => e = .returned .nilIface ∧ LimPost B b g ((bs ++ 91 :: commas (ts.take k)) ++ [93]) wr w')) := Lib.hid (limByte_any wr B b g _ 93 HRR.out.1.lim (by rw [HTK.out]; have := HL.out; simp only [List.length_append, List.length_cons]; omega) HRR.out.1.lb HRR.out.1.lg HRR.out.1.le)
      go_wp2_with fail
      refine HWC.out.mono ?_
      rintro e w2 ⟨rfl, hp⟩
      have HP2 := Lib.hid (HRR.out.1.write hp)
      clear hp
      go_wp2_with fail
      go_end0
      refine ⟨rfl, ?_, HRR.out.2.trans HP2.out.2⟩
      have h1 := HP2.out.1
      rw [HTK.out, List.append_assoc, List.cons_append] at h1
      exact h1
end Go.Proofs.YtpigccnlembfdaaGreatDoor

/- The walk of encodeObject over a limited writer, whatever its elements, where the text fits. Conditions: as the theorem states. -/
namespace Go.Proofs.YtpigccnlembfdaaGreatDoor
open Go.RowKit Go.Deep Go.Sort Go.Maps

theorem info_kv : (Tryz.prog.info? 140).map (fun i => (i.zero, i.size, i.bytes)) = some (some (.agg #[.string ⟨#[]⟩, .nilIface]), 2, 32) := by kernel_rfl
/-- What the walk of encodeObject asks and keeps. -/
structure ObjIn (w : World) (B b g E : Nat) (bs : List UInt8) (b0 n : Nat) (m : ByteArray → Option Value) (ks : List ByteArray) (us : List Value) (ts : List (List UInt8)) : Prop where
  st : StL w B b g E bs
  lt : b0 < B
  map : MapIs w b0 n m
  rise : Rising ks
  lu : ks.length = us.length
  lts : ts.length = ks.length
  ln : ks.length = n
  mem : ∀ s v, m s = some v ↔ ∃ i : Nat, ks[i]? = some s ∧ us[i]? = some v
  one : ∀ u ∈ us, u = .nilIface ∨ ∃ a c, u = .iface a c
  fits : bs.length + (123 :: (commas (List.zipWith keyed ks ts) ++ [125])).length < 32
  key : ∀ (s : ByteArray) (w' : World) (bs' : List UInt8), s ∈ ks → KB B b g E w w' → StL w' B b g E bs' → bs'.length + (34 :: (jqs s.data.toList ++ [34])).length < 32 →
    Calls Tryz.prog 68 #[.pointer (some ⟨E, 0, none⟩), .string s] w' (EncLPost B b g E bs' (34 :: (jqs s.data.toList ++ [34])) w')
  el : ∀ (i : Nat) (u : Value) (t : List UInt8) (w' : World) (bs' : List UInt8), us[i]? = some u → ts[i]? = some t → KB B b g E w w' → StL w' B b g E bs' → bs'.length + t.length < 32 →
    Calls Tryz.prog 49 #[.pointer (some ⟨E, 0, none⟩), u] w' (EncLPost B b g E bs' t w')

set_option maxRecDepth 100000 in
set_option maxHeartbeats 8000000 in
theorem encodeObj_any (w : World) (B b g E : Nat) (bs : List UInt8) (b0 n : Nat) (m : ByteArray → Option Value) (ks : List ByteArray) (us : List Value) (ts : List (List UInt8)) (h : ObjIn w B b g E bs b0 n m ks us ts) :
    Calls Tryz.prog 70 #[.pointer (some ⟨E, 0, none⟩), .map (some b0)] w (EncLPost B b g E bs (123 :: (commas (List.zipWith keyed ks ts) ++ [125])) w) := by
  have hn7 : n ≤ 7 := by
    have h1 := keyed_ge4 ks ts h.lts
    have h2 := h.fits
    have h3 := h.ln
    simp only [List.length_cons, List.length_append, List.length_nil] at h2
    omega
  have HB0 : Hid (bs.length < 31) := Lib.hid (by have h2 := h.fits; simp only [List.length_cons, List.length_append, List.length_nil] at h2; omega)
  obtain ⟨r0, hE⟩ := h.st.enc
  have eE := hE.cell0
  have hltE := hE.lt
  have HWB : Hid (Calls Tryz.prog 191 #[.pointer (some ⟨b, 0, none⟩), .int .u8 123] w (fun e w' => e = .returned .nilIface ∧ LimPost B b g (bs ++ [123]) w w')) := Lib.hid (limByte_any w B b g bs 123 h.st.lim HB0.out h.st.lb h.st.lg h.st.le)
  obtain ⟨ikv, hikv, heq⟩ := Option.map_eq_some_iff.1 info_kv
  have hz0 : ikv.zero = some (.agg #[.string ⟨#[]⟩, .nilIface]) := congrArg (·.1) heq
  have hz1 : ikv.size = 2 := congrArg (·.2.1) heq
  have hz2 : ikv.bytes = 32 := congrArg (·.2.2) heq
  have hmk : ∀ W : World, (Instr.makeSlice 138 (.int .i64 (n : Int)) (.int .i64 (n : Int))).run Tryz.prog W = .ok (.slice (some ⟨W.heap.size, 0, none⟩) n n) (W.alloc (.cells (madeCells #[.string ⟨#[]⟩, .nilIface] (n * 2)) 140)) := fun W => by
    have := run_make (P := Tryz.prog) W 138 140 ikv _ Tryz.underlying138 hikv hz0 .i64 .i64 (n : Int) (n : Int) (by omega) (Int.le_refl _) (by rw [hz2]; omega) (by omega)
    rw [hz1, Int.toNat_natCast] at this
    exact this
  clear hz0 hz1 hz2 heq hikv
  have HO := Lib.hid h
  clear h hE
  go_enter Tryz.func70, Tryz.ntmps70
  go_wp2_with fail
  refine HWB.out.mono ?_
  rintro e w1 ⟨rfl, hp⟩
  have HF := Lib.hid (HO.out.st.write hp)
  clear hp eE hltE
  have hm1 : MapIs w1 b0 n m := HO.out.map.of_block (HF.out.2.below.block _ HO.out.lt)
  obtain ⟨es, clock, hbk, hst, hsz, hkeys, hmm⟩ := hm1
  have HM1 : Hid (MapIs w1 b0 n m) := Lib.hid ⟨es, clock, hbk, hst, hsz, hkeys, hmm⟩
  have hlm : (Builtin.len_ #[69] 3 #[.map (some b0)]).run Tryz.prog w1 = .ok (.int .i64 (n : Int)) w1 := by
    rw [run_len_map w1 69 3 b0 es clock (by kernel_rfl) hbk, hsz]; rfl
  clear hst hkeys hmm hbk hsz
  obtain ⟨oA, hoA⟩ : ∃ oA, oA = Obj.cells (madeCells #[Value.string ⟨#[]⟩, Value.nilIface] (n * 2)) 140 := ⟨_, rfl⟩
  have hM2 : MapIs ((w1.alloc (.cells (madeCells #[Value.string ⟨#[]⟩, Value.nilIface] (n * 2)) 140)).alloc (.cells #[.slice (some ⟨w1.heap.size, 0, none⟩) n n] 138)) b0 n m :=
    HM1.out.of_block (by rw [Lib.alloc_old _ _ _ (by have := HM1.out.lt; simp; omega), Lib.alloc_old _ _ _ HM1.out.lt])
  have hR2 : KvRow ((w1.alloc (.cells (madeCells #[Value.string ⟨#[]⟩, Value.nilIface] (n * 2)) 140)).alloc (.cells #[.slice (some ⟨w1.heap.size, 0, none⟩) n n] 138)) w1.heap.size [] n :=
    (KvRow.new w1 n).same (Lib.alloc_old _ _ _ (by simp))
  have hX2 : ((w1.alloc (.cells (madeCells #[Value.string ⟨#[]⟩, Value.nilIface] (n * 2)) 140)).alloc (.cells #[.slice (some ⟨w1.heap.size, 0, none⟩) n n] 138)).heap[w1.heap.size + 1]? = some (.cells #[.slice (some ⟨w1.heap.size, 0, none⟩) n n] 138 (0, 0)) := by
    have := heap_alloc_new (w1.alloc (.cells (madeCells #[Value.string ⟨#[]⟩, Value.nilIface] (n * 2)) 140)) (.cells #[.slice (some ⟨w1.heap.size, 0, none⟩) n n] 138)
    rw [World.size_alloc] at this
    exact this
  have hS2 : ((w1.alloc (.cells (madeCells #[Value.string ⟨#[]⟩, Value.nilIface] (n * 2)) 140)).alloc (.cells #[.slice (some ⟨w1.heap.size, 0, none⟩) n n] 138)).heap.size = w1.heap.size + 2 := by simp
  have hB2 : Below w1.heap.size w1 ((w1.alloc (.cells (madeCells #[Value.string ⟨#[]⟩, Value.nilIface] (n * 2)) 140)).alloc (.cells #[.slice (some ⟨w1.heap.size, 0, none⟩) n n] 138)) := ((Below.refl _ _).alloc (Nat.le_refl _) _).alloc (by simp) _
  obtain ⟨D, hown, hszD, hmD⟩ := hM2.own Tryz.underlying9 (by unfold maxLen; omega)
  have HW2 := Lib.hid (And.intro hR2 (And.intro hX2 (And.intro hS2 hB2)))
  have HD := Lib.hid (And.intro hszD hmD)
  have KS := string_keyed Tryz.underlying9
  clear hM2 hR2 hX2 hS2 hB2 hszD hmD hoA
  go_wp2_with (first
    | (at_range; refine wpList_range_own _ rfl _ 69 rfl 9 20 KS Tryz.underlying69 heldR b0 n D rfl hown ?_; intro w0 hrg0 hg0 hs0)
    | go_in)
  rw [HW2.out.2.2.1] at hs0 hrg0 ⊢
  have hB0 : Below w1.heap.size w1 w0 := HW2.out.2.2.2.trans ((Below.refl _ _).grown hg0 (by have := HW2.out.2.2.1; omega) (fun k hk => by cases hk))
  have hb0K : b0 < w1.heap.size := HM1.out.lt
  have hwK : w.heap.size ≤ w1.heap.size := HF.out.2.below.size
  have hst0 := HF.out.1.on hB0
  have hkb0 := HF.out.2.trans (KB.of hB0 HF.out.1.le)
  have hrow0 : KvRow w0 w1.heap.size [] n := HW2.out.1.same (hg0.block _ (by have := HW2.out.2.2.1; omega) (by simp))
  have hbox0 : w0.heap[w1.heap.size + 1]? = some (.cells #[.slice (some ⟨w1.heap.size, 0, none⟩) n n] 138 (0, 0)) := (hg0.block _ (by have := HW2.out.2.2.1; omega) (by simp)).trans HW2.out.2.1
  have HG0 := Lib.hid (And.intro hrg0 (And.intro hst0 (And.intro hkb0 (And.intro hrow0 hbox0))))
  have hbne := HF.out.1.lim.lt
  have hgne := HF.out.1.lim.rlt
  have hEne : E < w1.heap.size := by obtain ⟨r, hr⟩ := HF.out.1.enc; exact hr.lt
  clear hrg0 hg0 hs0 hown hmk hlm hB0 hst0 hkb0 hrow0 hbox0 HW2 HWB
  obtain ⟨K, hK⟩ : ∃ K, K = w1.heap.size := ⟨_, rfl⟩
  rw [← hK] at HG0 hb0K hwK hbne hgne hEne ⊢
  have HKK := Lib.hid hK
  clear hK
  go_frame
  go_loopw [5] (fun iv wr => ∃ (left : Lit → Bool) (cnt : Nat) (ps : List (ByteArray × Value)), iv = .int .i64 ps.length ∧ ps.length + cnt ≤ n ∧ wr.ranges Tryz.prog 9 heldR b0 (K + 2) n D left cnt ∧
      Hid (Seen D left ps ∧ KvRow wr K ps (n - ps.length) ∧ wr.heap[K + 1]? = some (.cells #[.slice (some ⟨K, 0, none⟩) n n] 138 (0, 0)) ∧ StL wr B b g E (bs ++ [123]) ∧ KB B b g E w wr ∧ ∀ p ∈ ps, p.2.oneCell' = true))
    (fun _ wr => wr.rangeLeft b0 (K + 2))
  case atStart =>
    refine ⟨_, _, [], rfl, ?_, HG0.out.1, Lib.hid ⟨Seen.start D, HG0.out.2.2.2.1, HG0.out.2.2.2.2, HG0.out.2.1, HG0.out.2.2.1, fun p hp => by cases hp⟩⟩
    rw [HD.out.1]; simp
  case round =>
    obtain ⟨left, cnt, ps, rfl, hcn, hrg, HR⟩ := hrel
    go_wp2_with (first
      | (at_next; refine wpList_next_ranges _ rfl _ rfl 9 KS heldR Value.string id (fun key kl h => by obtain ⟨s, e, _⟩ := key_inv Tryz.underlying9 h; exact ⟨s, e⟩) (fun v _ _ => ⟨v, rfl⟩) b0 (K + 2) n D _ _ rfl hrg ?_ ?_)
      | go_in)
    · intro hc0 hl0
      have hperm := HR.out.1.done hl0 HO.out.rise HO.out.lu (fun s v => by rw [HD.out.2]; exact HO.out.mem s v)
      have hpl : ps.length = n := by rw [hperm.length_eq, List.length_zip, ← HO.out.lu, Nat.min_self]; exact HO.out.ln
      have hrow := HR.out.2.1
      rw [hpl, Nat.sub_self] at hrow
      have hcb : wr.cell? ⟨K + 1, 0, none⟩ = some (.slice (some ⟨K, 0, none⟩) n n) := by rw [cell_of_row wr _ 0 _ _ _ HR.out.2.2.1]; rfl
      have hltb : K + 1 < wr.heap.size := (Array.getElem?_eq_some_iff.1 HR.out.2.2.1).1
      have hsort := sort_any wr K n (K + 1) ps HO.out.rise HO.out.lu hperm (by omega) HR.out.2.2.2.2.2 hrow.holds hrow.lt (by rw [hpl]; exact hcb) hltb (by omega)
      rw [hpl] at hsort
      have HSO := Lib.hid hsort
      have hmf : ∀ (fn : Fn) (first cap : Array Value) (w : World), (Instr.makeFunc fn first cap).run Tryz.prog w = .ok (.func fn first cap) w := fun _ _ _ _ => rfl
      clear hperm hrow hsort hc0 hl0
      go_wp2_with fail
      refine HSO.out.mono ?_
      rintro e w3 ⟨rfl, hg3, hH3, -⟩
      have hst3 := HR.out.2.2.2.1.beside hg3 (by omega) (by omega) (by omega)
      have hkb3 := HR.out.2.2.2.2.1.turn hg3 hwK HO.out.st.le
      have hbx3 := (hg3.block (K + 1) hltb (by intro e; have := Option.some.inj e; omega)).trans HR.out.2.2.1
      have hcb3 : w3.cell? ⟨K + 1, 0, none⟩ = some (.slice (some ⟨K, 0, none⟩) n n) := by rw [cell_of_row w3 _ 0 _ _ _ hbx3]; rfl
      have hK3 : K < w3.heap.size := by have := hg3.size; omega
      have H3 := Lib.hid (And.intro hst3 (And.intro hkb3 hH3))
      clear hg3 hst3 hkb3 hbx3 hH3 hcb hltb hrg hpl hmf
      go_wp2_with fail
      go_loopw [39] (fun iv wq => ∃ k : Nat, k ≤ n ∧ iv = .int .i64 k ∧ Hid (StL wq B b g E (bs ++ 123 :: commas ((List.zipWith keyed ks ts).take k)) ∧ KB B b g E w wq ∧ KB B b g E w3 wq)) (fun iv _ => n - (intOf iv).toNat)
      case atStart => exact ⟨0, Nat.zero_le _, rfl, Lib.hid ⟨by simpa [commas] using H3.out.1, H3.out.2.1, KB.refl _ _ _ _ _⟩⟩
      case round =>
        obtain ⟨k, hk, rfl, HQ⟩ := hrel
        by_cases hkn : k < n
        · obtain ⟨s, hs⟩ : ∃ s, ks[k]? = some s := ⟨_, List.getElem?_eq_getElem (by have := HO.out.ln; omega)⟩
          obtain ⟨u, hu⟩ : ∃ u, us[k]? = some u := ⟨_, List.getElem?_eq_getElem (by have := HO.out.ln; have := HO.out.lu; omega)⟩
          obtain ⟨t, ht⟩ : ∃ t, ts[k]? = some t := ⟨_, List.getElem?_eq_getElem (by have := HO.out.ln; have := HO.out.lts; omega)⟩
          have hone : u.oneCell' = true := by rcases HO.out.one u (List.mem_of_getElem? hu) with rfl | ⟨a, c, rfl⟩ <;> rfl
          have hHq := holdsK_same H3.out.2.2 (HQ.out.2.2.keep K hK3 (by omega) (by omega) (by omega))
          obtain ⟨d0, d1⟩ := holdsK_at hHq hs hu hone
          have hKq : K < wr.heap.size := by have := HQ.out.2.2.below.size; omega
          have HT := Lib.hid (And.intro hs (And.intro hu (And.intro ht hone)))
          clear hHq hs hu ht hone
          have HCM := Lib.hid (commas_take (List.zipWith keyed ks ts) k (keyed s t) (zip_at keyed ks ts k s t HT.out.1 HT.out.2.2.1))
          have HLN : Hid ((bs ++ 123 :: commas ((List.zipWith keyed ks ts).take k)).length + (if k = 0 then [] else [44] : List UInt8).length + (keyed s t).length < 32) := Lib.hid (by
            have h1 := HO.out.fits
            have h2 := commas_len_take (List.zipWith keyed ks ts) (k + 1)
            rw [HCM.out, List.length_append, List.length_append] at h2
            simp only [List.length_cons, List.length_append, List.length_nil] at h1 ⊢
            omega)
          have hbl := HQ.out.1.lim.lt
          have hgl := HQ.out.1.lim.rlt
          obtain ⟨rEq, hEq⟩ := HQ.out.1.enc
          have hEl := hEq.lt
          have eE := hEq.cell0
          clear hEq
          have hshape : u = .nilIface ∨ ∃ a c, u = .iface a c := HO.out.one u (List.mem_of_getElem? HT.out.2.1)
          have hst1 : ∀ o, StL (wr.alloc o) B b g E (bs ++ 123 :: commas ((List.zipWith keyed ks ts).take k)) := fun o => HQ.out.1.on (below1 wr o)
          have hkb1 : ∀ o, KB B b g E w (wr.alloc o) := fun o => HQ.out.2.1.trans (KB.of (below1 wr o) HQ.out.1.le)
          have hkb2 : ∀ o, KB B b g E w3 (wr.alloc o) := fun o => HQ.out.2.2.trans (KB.of (below1 wr o) HQ.out.1.le)
          by_cases hk0 : k = 0
          · subst hk0
            simp only [Nat.zero_mul, Nat.zero_add] at d0 d1
            simp only [if_true, List.append_nil] at HCM HLN
            rcases hshape with rfl | ⟨a, c, rfl⟩
            · as_aux_lemma =>
                have HW1 := Lib.hid (And.intro (hst1 (.cells #[.string s, .nilIface] 140)) (And.intro (hkb1 (.cells #[.string s, .nilIface] 140)) (And.intro (hkb2 (.cells #[.string s, .nilIface] 140)) (And.intro (show wr.heap.size < (wr.alloc (.cells #[.string s, .nilIface] 140)).heap.size by simp) (heap_alloc_new wr (.cells #[.string s, .nilIface] 140))))))
                clear hst1 hkb1 hkb2
                have e10 := True.intro
                have e11 := True.intro
                have e1l := True.intro
                have HKY := Lib.hid (HO.out.key s (wr.alloc (.cells #[.string s, .nilIface] 140)) _ (List.mem_of_getElem? HT.out.1) HW1.out.2.1 HW1.out.1 (by have := HLN.out; simp only [keyed, List.length_append, List.length_cons, List.length_nil] at this ⊢; omega))
                go_wp2_with fail
                refine HKY.out.mono ?_
                rintro e w5 ⟨rfl, hst5, hkb5⟩
                have HW5 := Lib.hid (And.intro hst5 (And.intro (HW1.out.2.1.trans hkb5) (And.intro (HW1.out.2.2.1.trans hkb5) ((hkb5.keep _ HW1.out.2.2.2.1 (by omega) (by omega) (by omega)).trans HW1.out.2.2.2.2))))
                have e50 := cell_of_row w5 _ 0 _ _ _ HW5.out.2.2.2
                have e51 := cell_of_row w5 _ 1 _ _ _ HW5.out.2.2.2
                simp only [List.getElem?_toArray, List.getElem?_cons_zero, List.getElem?_cons_succ] at e50 e51
                have e5l := (Array.getElem?_eq_some_iff.1 HW5.out.2.2.2).1
                obtain ⟨rE5, hE5⟩ := HW5.out.1.enc
                have eE := hE5.cell0
                have hltE := hE5.lt
                have HWC : Hid (Calls Tryz.prog 191 #[.pointer (some ⟨b, 0, none⟩), .int .u8 58] w5 (fun e w' => e = .returned .nilIface ∧ LimPost B b g (((bs ++ 123 :: commas ((List.zipWith keyed ks ts).take 0)) ++ (34 :: (jqs s.data.toList ++ [34]))) ++ [58]) w5 w')) := Lib.hid (limByte_any w5 B b g _ 58 HW5.out.1.lim (by have := HLN.out; simp only [keyed, List.length_append, List.length_cons, List.length_nil] at this ⊢; omega) HW5.out.1.lb HW5.out.1.lg HW5.out.1.le)
                clear hst5 hkb5 hE5 e10 e11 e1l
                go_wp2_with fail
                refine HWC.out.mono ?_
                rintro e w6 ⟨rfl, hp⟩
                have HP6 := Lib.hid (HW5.out.1.write hp)
                have HW6 := Lib.hid (And.intro HP6.out.1 (And.intro (HW5.out.2.1.trans HP6.out.2) (And.intro (HW5.out.2.2.1.trans HP6.out.2) ((HP6.out.2.keep _ e5l (by omega) (by omega) (by omega)).trans HW5.out.2.2.2))))
                have e61 := cell_of_row w6 _ 1 _ _ _ HW6.out.2.2.2
                simp only [List.getElem?_toArray, List.getElem?_cons_zero, List.getElem?_cons_succ] at e61
                have e6l := (Array.getElem?_eq_some_iff.1 HW6.out.2.2.2).1
                have HEL := Lib.hid (HO.out.el 0 _ t w6 _ HT.out.2.1 HT.out.2.2.1 HW6.out.2.1 HW6.out.1 (by have := HLN.out; simp only [keyed, List.length_append, List.length_cons, List.length_nil] at this ⊢; omega))
                clear hp eE hltE e50 e51
                go_wp2_with fail
                refine HEL.out.mono ?_
                rintro e w7 ⟨rfl, hst7, hkb7⟩
                have HW7 := Lib.hid (And.intro hst7 (And.intro (HW6.out.2.1.trans hkb7) (HW6.out.2.2.1.trans hkb7)))
                clear hst7 hkb7 e61 e6l
                go_wp2_with fail
                go_roundw
                case rel =>
                  refine ⟨1, by omega, by first | go_num | simp, Lib.hid ⟨?_, HW7.out.2.1, HW7.out.2.2⟩⟩
                  have h1 := HW7.out.1
                  rw [HCM.out]
                  simp only [keyed, List.append_assoc, List.cons_append, List.nil_append] at h1 ⊢
                  exact h1
                case measure => simp [intOf]; omega
            · as_aux_lemma =>
                have HW1 := Lib.hid (And.intro (hst1 (.cells #[.string s, .iface a c] 140)) (And.intro (hkb1 (.cells #[.string s, .iface a c] 140)) (And.intro (hkb2 (.cells #[.string s, .iface a c] 140)) (And.intro (show wr.heap.size < (wr.alloc (.cells #[.string s, .iface a c] 140)).heap.size by simp) (heap_alloc_new wr (.cells #[.string s, .iface a c] 140))))))
                clear hst1 hkb1 hkb2
                have e10 := True.intro
                have e11 := True.intro
                have e1l := True.intro
                have HKY := Lib.hid (HO.out.key s (wr.alloc (.cells #[.string s, .iface a c] 140)) _ (List.mem_of_getElem? HT.out.1) HW1.out.2.1 HW1.out.1 (by have := HLN.out; simp only [keyed, List.length_append, List.length_cons, List.length_nil] at this ⊢; omega))
                go_wp2_with fail
                refine HKY.out.mono ?_
                rintro e w5 ⟨rfl, hst5, hkb5⟩
                have HW5 := Lib.hid (And.intro hst5 (And.intro (HW1.out.2.1.trans hkb5) (And.intro (HW1.out.2.2.1.trans hkb5) ((hkb5.keep _ HW1.out.2.2.2.1 (by omega) (by omega) (by omega)).trans HW1.out.2.2.2.2))))
                have e50 := cell_of_row w5 _ 0 _ _ _ HW5.out.2.2.2
                have e51 := cell_of_row w5 _ 1 _ _ _ HW5.out.2.2.2
                simp only [List.getElem?_toArray, List.getElem?_cons_zero, List.getElem?_cons_succ] at e50 e51
                have e5l := (Array.getElem?_eq_some_iff.1 HW5.out.2.2.2).1
                obtain ⟨rE5, hE5⟩ := HW5.out.1.enc
                have eE := hE5.cell0
                have hltE := hE5.lt
                have HWC : Hid (Calls Tryz.prog 191 #[.pointer (some ⟨b, 0, none⟩), .int .u8 58] w5 (fun e w' => e = .returned .nilIface ∧ LimPost B b g (((bs ++ 123 :: commas ((List.zipWith keyed ks ts).take 0)) ++ (34 :: (jqs s.data.toList ++ [34]))) ++ [58]) w5 w')) := Lib.hid (limByte_any w5 B b g _ 58 HW5.out.1.lim (by have := HLN.out; simp only [keyed, List.length_append, List.length_cons, List.length_nil] at this ⊢; omega) HW5.out.1.lb HW5.out.1.lg HW5.out.1.le)
                clear hst5 hkb5 hE5 e10 e11 e1l
                go_wp2_with fail
                refine HWC.out.mono ?_
                rintro e w6 ⟨rfl, hp⟩
                have HP6 := Lib.hid (HW5.out.1.write hp)
                have HW6 := Lib.hid (And.intro HP6.out.1 (And.intro (HW5.out.2.1.trans HP6.out.2) (And.intro (HW5.out.2.2.1.trans HP6.out.2) ((HP6.out.2.keep _ e5l (by omega) (by omega) (by omega)).trans HW5.out.2.2.2))))
                have e61 := cell_of_row w6 _ 1 _ _ _ HW6.out.2.2.2
                simp only [List.getElem?_toArray, List.getElem?_cons_zero, List.getElem?_cons_succ] at e61
                have e6l := (Array.getElem?_eq_some_iff.1 HW6.out.2.2.2).1
                have HEL := Lib.hid (HO.out.el 0 _ t w6 _ HT.out.2.1 HT.out.2.2.1 HW6.out.2.1 HW6.out.1 (by have := HLN.out; simp only [keyed, List.length_append, List.length_cons, List.length_nil] at this ⊢; omega))
                clear hp eE hltE e50 e51
                go_wp2_with fail
                refine HEL.out.mono ?_
                rintro e w7 ⟨rfl, hst7, hkb7⟩
                have HW7 := Lib.hid (And.intro hst7 (And.intro (HW6.out.2.1.trans hkb7) (HW6.out.2.2.1.trans hkb7)))
                clear hst7 hkb7 e61 e6l
                go_wp2_with fail
                go_roundw
                case rel =>
                  refine ⟨1, by omega, by first | go_num | simp, Lib.hid ⟨?_, HW7.out.2.1, HW7.out.2.2⟩⟩
                  have h1 := HW7.out.1
                  rw [HCM.out]
                  simp only [keyed, List.append_assoc, List.cons_append, List.nil_append] at h1 ⊢
                  exact h1
                case measure => simp [intOf]; omega
          · have hkz : (0 : Int) < (k : Int) := by omega
            rw [if_neg hk0] at HCM HLN
            clear hk0
            rcases hshape with rfl | ⟨a, c, rfl⟩
            · as_aux_lemma =>
                have HW1 := Lib.hid (And.intro (hst1 (.cells #[.string s, .nilIface] 140)) (And.intro (hkb1 (.cells #[.string s, .nilIface] 140)) (And.intro (hkb2 (.cells #[.string s, .nilIface] 140)) (And.intro (show wr.heap.size < (wr.alloc (.cells #[.string s, .nilIface] 140)).heap.size by simp) (heap_alloc_new wr (.cells #[.string s, .nilIface] 140))))))
                clear hst1 hkb1 hkb2
                have HWA : Hid (Calls Tryz.prog 191 #[.pointer (some ⟨b, 0, none⟩), .int .u8 44] (wr.alloc (.cells #[.string s, .nilIface] 140)) (fun e w' => e = .returned .nilIface ∧ LimPost B b g ((bs ++ 123 :: commas ((List.zipWith keyed ks ts).take k)) ++ [44]) (wr.alloc (.cells #[.string s, .nilIface] 140)) w')) := Lib.hid (limByte_any _ B b g _ 44 HW1.out.1.lim (by have := HLN.out; simp only [keyed, List.length_append, List.length_cons, List.length_nil] at this ⊢; omega) HW1.out.1.lb HW1.out.1.lg HW1.out.1.le)
                go_wp2_with fail
                refine HWA.out.mono ?_
                rintro e w4 ⟨rfl, hp⟩
                have HP4 := Lib.hid (HW1.out.1.write hp)
                have HWB1 := HW1
                clear HW1
                have HW1 := Lib.hid (And.intro HP4.out.1 (And.intro (HWB1.out.2.1.trans HP4.out.2) (And.intro (HWB1.out.2.2.1.trans HP4.out.2) (And.intro (show wr.heap.size < w4.heap.size from Nat.lt_of_lt_of_le HWB1.out.2.2.2.1 HP4.out.2.below.size) ((HP4.out.2.keep _ HWB1.out.2.2.2.1 (by omega) (by omega) (by omega)).trans HWB1.out.2.2.2.2)))))
                have e10 := cell_of_row w4 _ 0 _ _ _ HW1.out.2.2.2.2
                have e11 := cell_of_row w4 _ 1 _ _ _ HW1.out.2.2.2.2
                simp only [List.getElem?_toArray, List.getElem?_cons_zero, List.getElem?_cons_succ] at e10 e11
                have e1l := HW1.out.2.2.2.1
                clear hp eE
                have HKY := Lib.hid (HO.out.key s w4 _ (List.mem_of_getElem? HT.out.1) HW1.out.2.1 HW1.out.1 (by have := HLN.out; simp only [keyed, List.length_append, List.length_cons, List.length_nil] at this ⊢; omega))
                go_wp2_with fail
                refine HKY.out.mono ?_
                rintro e w5 ⟨rfl, hst5, hkb5⟩
                have HW5 := Lib.hid (And.intro hst5 (And.intro (HW1.out.2.1.trans hkb5) (And.intro (HW1.out.2.2.1.trans hkb5) ((hkb5.keep _ HW1.out.2.2.2.1 (by omega) (by omega) (by omega)).trans HW1.out.2.2.2.2))))
                have e50 := cell_of_row w5 _ 0 _ _ _ HW5.out.2.2.2
                have e51 := cell_of_row w5 _ 1 _ _ _ HW5.out.2.2.2
                simp only [List.getElem?_toArray, List.getElem?_cons_zero, List.getElem?_cons_succ] at e50 e51
                have e5l := (Array.getElem?_eq_some_iff.1 HW5.out.2.2.2).1
                obtain ⟨rE5, hE5⟩ := HW5.out.1.enc
                have eE := hE5.cell0
                have hltE := hE5.lt
                have HWC : Hid (Calls Tryz.prog 191 #[.pointer (some ⟨b, 0, none⟩), .int .u8 58] w5 (fun e w' => e = .returned .nilIface ∧ LimPost B b g ((((bs ++ 123 :: commas ((List.zipWith keyed ks ts).take k)) ++ [44]) ++ (34 :: (jqs s.data.toList ++ [34]))) ++ [58]) w5 w')) := Lib.hid (limByte_any w5 B b g _ 58 HW5.out.1.lim (by have := HLN.out; simp only [keyed, List.length_append, List.length_cons, List.length_nil] at this ⊢; omega) HW5.out.1.lb HW5.out.1.lg HW5.out.1.le)
                clear hst5 hkb5 hE5 e10 e11 e1l
                go_wp2_with fail
                refine HWC.out.mono ?_
                rintro e w6 ⟨rfl, hp⟩
                have HP6 := Lib.hid (HW5.out.1.write hp)
                have HW6 := Lib.hid (And.intro HP6.out.1 (And.intro (HW5.out.2.1.trans HP6.out.2) (And.intro (HW5.out.2.2.1.trans HP6.out.2) ((HP6.out.2.keep _ e5l (by omega) (by omega) (by omega)).trans HW5.out.2.2.2))))
                have e61 := cell_of_row w6 _ 1 _ _ _ HW6.out.2.2.2
                simp only [List.getElem?_toArray, List.getElem?_cons_zero, List.getElem?_cons_succ] at e61
                have e6l := (Array.getElem?_eq_some_iff.1 HW6.out.2.2.2).1
                have HEL := Lib.hid (HO.out.el k _ t w6 _ HT.out.2.1 HT.out.2.2.1 HW6.out.2.1 HW6.out.1 (by have := HLN.out; simp only [keyed, List.length_append, List.length_cons, List.length_nil] at this ⊢; omega))
                clear hp eE hltE e50 e51
                go_wp2_with fail
                refine HEL.out.mono ?_
                rintro e w7 ⟨rfl, hst7, hkb7⟩
                have HW7 := Lib.hid (And.intro hst7 (And.intro (HW6.out.2.1.trans hkb7) (HW6.out.2.2.1.trans hkb7)))
                clear hst7 hkb7 e61 e6l
                go_wp2_with fail
                go_roundw
                case rel =>
                  refine ⟨k + 1, by omega, by first | go_num | simp, Lib.hid ⟨?_, HW7.out.2.1, HW7.out.2.2⟩⟩
                  have h1 := HW7.out.1
                  rw [HCM.out]
                  simp only [keyed, List.append_assoc, List.cons_append, List.nil_append] at h1 ⊢
                  exact h1
                case measure => simp [intOf]; omega
            · as_aux_lemma =>
                have HW1 := Lib.hid (And.intro (hst1 (.cells #[.string s, .iface a c] 140)) (And.intro (hkb1 (.cells #[.string s, .iface a c] 140)) (And.intro (hkb2 (.cells #[.string s, .iface a c] 140)) (And.intro (show wr.heap.size < (wr.alloc (.cells #[.string s, .iface a c] 140)).heap.size by simp) (heap_alloc_new wr (.cells #[.string s, .iface a c] 140))))))
                clear hst1 hkb1 hkb2
                have HWA : Hid (Calls Tryz.prog 191 #[.pointer (some ⟨b, 0, none⟩), .int .u8 44] (wr.alloc (.cells #[.string s, .iface a c] 140)) (fun e w' => e = .returned .nilIface ∧ LimPost B b g ((bs ++ 123 :: commas ((List.zipWith keyed ks ts).take k)) ++ [44]) (wr.alloc (.cells #[.string s, .iface a c] 140)) w')) := Lib.hid (limByte_any _ B b g _ 44 HW1.out.1.lim (by have := HLN.out; simp only [keyed, List.length_append, List.length_cons, List.length_nil] at this ⊢; omega) HW1.out.1.lb HW1.out.1.lg HW1.out.1.le)
                go_wp2_with fail
                refine HWA.out.mono ?_
                rintro e w4 ⟨rfl, hp⟩
                have HP4 := Lib.hid (HW1.out.1.write hp)
                have HWB1 := HW1
                clear HW1
                have HW1 := Lib.hid (And.intro HP4.out.1 (And.intro (HWB1.out.2.1.trans HP4.out.2) (And.intro (HWB1.out.2.2.1.trans HP4.out.2) (And.intro (show wr.heap.size < w4.heap.size from Nat.lt_of_lt_of_le HWB1.out.2.2.2.1 HP4.out.2.below.size) ((HP4.out.2.keep _ HWB1.out.2.2.2.1 (by omega) (by omega) (by omega)).trans HWB1.out.2.2.2.2)))))
                have e10 := cell_of_row w4 _ 0 _ _ _ HW1.out.2.2.2.2
                have e11 := cell_of_row w4 _ 1 _ _ _ HW1.out.2.2.2.2
                simp only [List.getElem?_toArray, List.getElem?_cons_zero, List.getElem?_cons_succ] at e10 e11
                have e1l := HW1.out.2.2.2.1
                clear hp eE
                have HKY := Lib.hid (HO.out.key s w4 _ (List.mem_of_getElem? HT.out.1) HW1.out.2.1 HW1.out.1 (by have := HLN.out; simp only [keyed, List.length_append, List.length_cons, List.length_nil] at this ⊢; omega))
                go_wp2_with fail
                refine HKY.out.mono ?_
                rintro e w5 ⟨rfl, hst5, hkb5⟩
                have HW5 := Lib.hid (And.intro hst5 (And.intro (HW1.out.2.1.trans hkb5) (And.intro (HW1.out.2.2.1.trans hkb5) ((hkb5.keep _ HW1.out.2.2.2.1 (by omega) (by omega) (by omega)).trans HW1.out.2.2.2.2))))
                have e50 := cell_of_row w5 _ 0 _ _ _ HW5.out.2.2.2
                have e51 := cell_of_row w5 _ 1 _ _ _ HW5.out.2.2.2
                simp only [List.getElem?_toArray, List.getElem?_cons_zero, List.getElem?_cons_succ] at e50 e51
                have e5l := (Array.getElem?_eq_some_iff.1 HW5.out.2.2.2).1
                obtain ⟨rE5, hE5⟩ := HW5.out.1.enc
                have eE := hE5.cell0
                have hltE := hE5.lt
                have HWC : Hid (Calls Tryz.prog 191 #[.pointer (some ⟨b, 0, none⟩), .int .u8 58] w5 (fun e w' => e = .returned .nilIface ∧ LimPost B b g ((((bs ++ 123 :: commas ((List.zipWith keyed ks ts).take k)) ++ [44]) ++ (34 :: (jqs s.data.toList ++ [34]))) ++ [58]) w5 w')) := Lib.hid (limByte_any w5 B b g _ 58 HW5.out.1.lim (by have := HLN.out; simp only [keyed, List.length_append, List.length_cons, List.length_nil] at this ⊢; omega) HW5.out.1.lb HW5.out.1.lg HW5.out.1.le)
                clear hst5 hkb5 hE5 e10 e11 e1l
                go_wp2_with fail
                refine HWC.out.mono ?_
                rintro e w6 ⟨rfl, hp⟩
                have HP6 := Lib.hid (HW5.out.1.write hp)
                have HW6 := Lib.hid (And.intro HP6.out.1 (And.intro (HW5.out.2.1.trans HP6.out.2) (And.intro (HW5.out.2.2.1.trans HP6.out.2) ((HP6.out.2.keep _ e5l (by omega) (by omega) (by omega)).trans HW5.out.2.2.2))))
                have e61 := cell_of_row w6 _ 1 _ _ _ HW6.out.2.2.2
                simp only [List.getElem?_toArray, List.getElem?_cons_zero, List.getElem?_cons_succ] at e61
                have e6l := (Array.getElem?_eq_some_iff.1 HW6.out.2.2.2).1
                have HEL := Lib.hid (HO.out.el k _ t w6 _ HT.out.2.1 HT.out.2.2.1 HW6.out.2.1 HW6.out.1 (by have := HLN.out; simp only [keyed, List.length_append, List.length_cons, List.length_nil] at this ⊢; omega))
                clear hp eE hltE e50 e51
                go_wp2_with fail
                refine HEL.out.mono ?_
                rintro e w7 ⟨rfl, hst7, hkb7⟩
                have HW7 := Lib.hid (And.intro hst7 (And.intro (HW6.out.2.1.trans hkb7) (HW6.out.2.2.1.trans hkb7)))
                clear hst7 hkb7 e61 e6l
                go_wp2_with fail
                go_roundw
                case rel =>
                  refine ⟨k + 1, by omega, by first | go_num | simp, Lib.hid ⟨?_, HW7.out.2.1, HW7.out.2.2⟩⟩
                  have h1 := HW7.out.1
                  rw [HCM.out]
                  simp only [keyed, List.append_assoc, List.cons_append, List.nil_append] at h1 ⊢
                  exact h1
                case measure => simp [intOf]; omega
        · obtain rfl : k = n := by omega
          have HTK : Hid ((List.zipWith keyed ks ts).take k = List.zipWith keyed ks ts) := Lib.hid (List.take_of_length_le (by rw [List.length_zipWith]; have := HO.out.ln; omega))
          obtain ⟨rEq, hEq⟩ := HQ.out.1.enc
          have hEl := hEq.lt
          have eE := hEq.cell0
          clear hEq
          have HWC : Hid (Calls Tryz.prog 191 #[.pointer (some ⟨b, 0, none⟩), .int .u8 125] wr (fun e w' => e = .returned .nilIface ∧ LimPost B b g ((bs ++ 123 :: commas ((List.zipWith keyed ks ts).take k)) ++ [125]) wr w')) := Lib.hid (limByte_any wr B b g _ 125 HQ.out.1.lim (by rw [HTK.out]; have := HO.out.fits; simp only [List.length_append, List.length_cons, List.length_nil] at this ⊢; omega) HQ.out.1.lb HQ.out.1.lg HQ.out.1.le)
          go_wp2_with fail
          refine HWC.out.mono ?_
          rintro e w5 ⟨rfl, hp⟩
          have HP := Lib.hid (HQ.out.1.write hp)
          clear hp
          go_wp2_with fail
          go_end0
          refine ⟨rfl, ?_, HQ.out.2.1.trans HP.out.2⟩
          have h1 := HP.out.1
          rw [HTK.out, List.append_assoc, List.cons_append] at h1
          exact h1
    · intro x c kl yd yp wq cnt1 hkey hlx hv hat hrg1 hlt hg1 hs1 hen
      obtain ⟨s', e1, e2⟩ := key_inv Tryz.underlying9 hkey
      cases e1
      rw [keyOf_str Tryz.underlying9 e2] at hkey
      cases hkey
      have hc := mapOf_at hv hat
      have hmx : ∃ i : Nat, ks[i]? = some x ∧ us[i]? = some c := (HO.out.mem x c).1 (by rw [← HD.out.2]; exact hc)
      have hshape : c = .nilIface ∨ ∃ a d, c = .iface a d := by obtain ⟨i, _, h2⟩ := hmx; exact HO.out.one c (List.mem_of_getElem? h2)
      have hone : c.oneCell' = true := by rcases hshape with rfl | ⟨a, d, rfl⟩ <;> rfl
      obtain ⟨r, hr⟩ : ∃ r, n - ps.length = r + 1 := ⟨n - ps.length - 1, by omega⟩
      have hltq : ps.length < n := by omega
      have hrowq : KvRow wq K ps (r + 1) := by
        have := HR.out.2.1.same (hg1.block K HR.out.2.1.lt (by intro e; have := Option.some.inj e; omega))
        rwa [hr] at this
      have hbxq := (hg1.block (K + 1) (Array.getElem?_eq_some_iff.1 HR.out.2.2.1).1 (by intro e; have := Option.some.inj e; omega)).trans HR.out.2.2.1
      have hcbq : wq.cell? ⟨K + 1, 0, none⟩ = some (.slice (some ⟨K, 0, none⟩) n n) := by rw [cell_of_row wq _ 0 _ _ _ hbxq]; rfl
      have d0 := hrowq.cell0
      have d1 := hrowq.cell1
      have f0 := hrowq.frozen (ps.length * 2)
      have f1 := hrowq.frozen (ps.length * 2 + 1)
      have hKq := hrowq.lt
      have HPUT := Lib.hid (hrowq.put x c hone)
      have HSN := Lib.hid (HR.out.1.step hlx hc)
      have HSQ := Lib.hid (And.intro (HR.out.2.2.2.1.beside hg1 (by omega) (by omega) (by omega)) (And.intro (HR.out.2.2.2.2.1.turn hg1 (by omega) HO.out.st.le) hbxq))
      have HRG := Lib.hid (And.intro hrg1 hlt)
      have HON := Lib.hid (And.intro hone (And.intro hr hrg))
      clear hrowq hbxq hc hmx hone hr hrg1 hlt hg1 hs1 hat hlx hv e2
      obtain ⟨q, hq⟩ : ∃ q, q = ps.length := ⟨_, rfl⟩
      rw [← hq] at d0 d1 f0 f1 hltq ⊢
      have HQ := Lib.hid hq
      clear hq
      rcases hshape with rfl | ⟨a, d, rfl⟩
      all_goals
        go_wp2_with fail
        have hgW : ∀ (v1 v2 : Value), wq.grownBy ((wq.setCell ⟨K, q * 2, none⟩ v1).setCell ⟨K, q * 2 + 1, none⟩ v2) (some K) := fun v1 v2 => (grown_cell wq K _ v1).trans (grown_cell _ K _ v2)
        have hlen : ∀ p : ByteArray × Value, (ps ++ [p]).length = ps.length + 1 := fun p => by simp
        have hrk := fun v => HRG.out.1.kept (hgW (.string x) v) (by intro e; have := Option.some.inj e; omega) (by intro e; have := Option.some.inj e; omega)
        refine ⟨⟨_, cnt1, ps ++ [(x, _)], ?_, ?_, hrk _, Lib.hid ⟨HSN.out, ?_, ?_, HSQ.out.1.beside (hgW _ _) (by omega) (by omega) (by omega), HSQ.out.2.1.turn (hgW _ _) hwK HO.out.st.le, ?_⟩⟩, ?_⟩
        · rw [hlen, HQ.out]; rfl
        · rw [hlen]; have := HRG.out.2; omega
        · rw [hlen, show n - (ps.length + 1) = r by have := HON.out.2.1; omega, HQ.out]; exact HPUT.out
        · rw [(hgW _ _).block (K + 1) (Array.getElem?_eq_some_iff.1 HSQ.out.2.2).1 (by intro e; have := Option.some.inj e; omega)]; exact HSQ.out.2.2
        · intro p hp
          rcases List.mem_append.1 hp with hp | hp
          · exact HR.out.2.2.2.2.2 p hp
          · rw [List.mem_singleton.1 hp]; exact HON.out.1
        · rw [(hrk _).left_eq, hrg.left_eq]; exact HRG.out.2
end Go.Proofs.YtpigccnlembfdaaGreatDoor
