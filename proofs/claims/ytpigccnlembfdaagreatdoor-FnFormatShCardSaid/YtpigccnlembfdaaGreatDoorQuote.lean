/- The walks of @sh at a list of strings: each is quoted, a blank stands between. Conditions: as each theorem states. -/
import Derived.Test.YtpigccnlembfdaaGreatDoorEsc
import Derived.Test.YtpigccnlembfdaaGreatDoorShelf
import Derived.Test.YtpigccnlembfdaaGreatDoorAssert
import Derived.Laws.MakeOwn
import Derived.Laws.Entries
import Derived.Laws.NewBlocks
import Derived.Deep.OwnRows
import Derived.Shelf.Strings.OnBuilder
namespace Go.Proofs.YtpigccnlembfdaaGreatDoor
open Go.RowKit Go.Shelf

theorem joinExtra : Builder.Extra Tryz.prog Tryz.laysJoin_ren where
  sizeBuilder := by kernel_rfl
  liesBuilder := by kernel_rfl
  t5 := Tryz.underlying5
  a5 := Tryz.isAgg5
  z5 := Tryz.sizeOf5
  v5 := Tryz.zeroValue5
  infoByte := by kernel_rfl
  cellsByte := by kernel_rfl
  sizeByte := by kernel_rfl
  neB5 := by decide

theorem join_any (w : World) (bk c : Nat) (xs : List ByteArray) (sep : ByteArray) (hcells : ∀ (j : Nat) x, xs[j]? = some x → w.cell? ⟨bk, j, none⟩ = some (.string x)) (hbk : bk < w.heap.size) (hN : xs.length ≤ 140737488355328) (hcap : xs.length ≤ c)
    (hlen : (Lib.join (xs.map (·.data.toList)) sep.data.toList).length ≤ 140737488355328) :
    Calls Tryz.prog 80 #[.slice (some ⟨bk, 0, none⟩) xs.length c, .string sep] w fun e w' => e = .returned (.string ⟨(Lib.join (xs.map (·.data.toList)) sep.data.toList).toArray⟩) ∧ Below w.heap.size w w' :=
  Any.strings_Join Tryz.laysJoin joinExtra bk 0 c xs sep w (fun j x h => by rw [Nat.zero_add]; exact hcells j x h) hbk hN hcap hlen

theorem escaper_any (w : World) : Calls Tryz.prog 62 #[] w fun e w' => e = .returned (.slice (some ⟨w.heap.size, 0, none⟩) 4 4) ∧ Escs w' w.heap.size ∧ Below w.heap.size w w' := by
  have hn : Escs (w.alloc (.cells #[.string ⟨#[39]⟩, .string ⟨#[39, 92, 39, 39]⟩, .string ⟨#[0]⟩, .string ⟨#[92, 48]⟩] 9)) w.heap.size := heap_alloc_new w _
  have HN := Lib.hid hn
  clear hn
  go_enter Tryz.func62, Tryz.ntmps62
  go_wp2_with fail
  go_ret
  exact ⟨rfl, HN.out, (Below.refl _ _).alloc (Nat.le_refl _) _⟩

/-- A quoted word as a string. -/
def quoted (s : ByteArray) : ByteArray := ⟨(shq s.data.toList).toArray⟩
theorem quote_bytes (l : List UInt8) : ((⟨#[39]⟩ : ByteArray) ++ ⟨(esc l).toArray⟩ ++ ⟨#[39]⟩) = ⟨(shq l).toArray⟩ := by
  apply ByteArray.ext
  simp [shq, ByteArray.data_append]

theorem quote_any (w : World) (s : ByteArray) (hs : s.size ≤ 1000000) :
    Calls Tryz.prog 61 #[.string s] w fun e w' => e = .returned (.string (quoted s)) ∧ Below w.heap.size w w' := by
  have hel : (esc s.data.toList).length ≤ 4000000 := by
    have h1 := esc_length s.data.toList
    have h2 : s.data.toList.length = s.size := by simp
    omega
  have h1 : ¬ 9223372036854775807 < 1 + (esc s.data.toList).length := by omega
  have h2 : ¬ 9223372036854775807 < 1 + (esc s.data.toList).length + 1 := by omega
  have HS := Lib.hid hs
  clear hs hel
  go_enter Tryz.func61, Tryz.ntmps61
  go_wp2_with (first
    | (go_at_call 62; refine (escaper_any _).mono ?_; rintro e w1 ⟨rfl, hE1, hb1⟩; have HE1 := Lib.hid hE1; have HB1 := Lib.hid hb1; clear hE1 hb1)
    | (go_at_call 63; refine (replace_any _ _ _ HS.out HE1.out).mono ?_; rintro e w2 ⟨rfl, hb2⟩; have HB2 := Lib.hid (HB1.out.trans (hb2.mono HB1.out.size)); clear hb2))
  go_ret
  refine ⟨?_, HB2.out⟩
  show Ending.returned (Value.string ((⟨#[39]⟩ : ByteArray) ++ ⟨(esc s.data.toList).toArray⟩ ++ ⟨#[39]⟩)) = _
  rw [quote_bytes]; rfl

/-- The block of strings that is being filled. -/
def OutS (w : World) (g : Nat) (us : List Value) (n : Nat) : Prop := w.heap[g]? = some (.cells (us ++ List.replicate n (Value.string ⟨#[]⟩)).toArray 9 (0, 0))
theorem made_str (n : Nat) : madeCells #[Value.string ⟨#[]⟩] n = (List.replicate n (Value.string ⟨#[]⟩)).toArray := by
  unfold madeCells
  apply Array.ext
  · simp
  · intro i h1 h2
    simp [Nat.mod_one]
theorem OutS.cell {w : World} {g n : Nat} {us : List Value} (h : OutS w g us (n + 1)) : w.cell? ⟨g, us.length, none⟩ = some (.string ⟨#[]⟩) := by
  rw [cell_of_row w g us.length _ _ _ h]
  simp [List.replicate_succ]
theorem OutS.at_ {w : World} {g n : Nat} {us : List Value} (h : OutS w g us n) {i : Nat} {u : Value} (hu : us[i]? = some u) : w.cell? ⟨g, i, none⟩ = some u := by
  rw [cell_of_row w g i _ _ _ h]
  simp [hu, List.getElem?_append_left (List.getElem?_eq_some_iff.1 hu).1]
theorem OutS.frozen {w : World} {g n : Nat} {us : List Value} (h : OutS w g us n) (i : Nat) : w.frozen? ⟨g, i, none⟩ = false := by
  unfold OutS at h; simp [World.frozen?, h]
theorem OutS.lt {w : World} {g n : Nat} {us : List Value} (h : OutS w g us n) : g < w.heap.size := (Array.getElem?_eq_some_iff.1 h).1
theorem OutS.set {w : World} {g n : Nat} {us : List Value} (h : OutS w g us (n + 1)) (u : Value) : OutS (w.setCell ⟨g, us.length, none⟩ u) g (us ++ [u]) n := by
  unfold OutS at h ⊢
  simp [World.setCell, Array.getElem?_modify, h, List.replicate_succ]
theorem OutS.below {w w' : World} {g n : Nat} {us : List Value} (h : OutS w g us n) (hb : Below w.heap.size w w') : OutS w' g us n := (hb.block g h.lt).trans h
theorem info_strT : (Tryz.prog.info? 9).map (fun i => (i.zero, i.size, i.bytes)) = some (some (Value.string ⟨#[]⟩), 1, 16) := by kernel_rfl

theorem join_bound (ss : List ByteArray) (hsz : ∀ s ∈ ss, s.size ≤ 1000000) : (Lib.join (ss.map fun s => shq s.data.toList) [32]).length ≤ ss.length * 4000003 := by
  have := join_length (ss.map fun s => shq s.data.toList) 4000002 (fun t ht => by
    obtain ⟨s, hs, rfl⟩ := List.mem_map.1 ht
    have h1 := shq_length s.data.toList
    have h2 : s.data.toList.length = s.size := by simp
    have := hsz s hs
    omega)
  simpa using this

set_option maxRecDepth 100000 in
set_option maxHeartbeats 2000000 in
theorem formatJoin_any (w : World) (ad : Addr) (c : Nat) (ss : List ByteArray) (hn : ss.length ≤ 1000) (_hc : ss.length ≤ c) (hsz : ∀ s ∈ ss, s.size ≤ 1000000) (had : ad.block < w.heap.size)
    (hcells : ∀ (i : Nat) (s : ByteArray), ss[i]? = some s → w.cell? (ad.add i) = some (.iface 9 (.string s))) :
    Calls Tryz.prog 60 #[.string ⟨#[115, 104]⟩, .iface 66 (.slice (some ad) ss.length c), .string ⟨#[32]⟩, .func (.func 61) #[] #[]] w
      fun e w' => e = .returned (.iface 9 (.string ⟨(Lib.join (ss.map fun s => shq s.data.toList) [32]).toArray⟩)) ∧ Below w.heap.size w w' := by
  have hjb := join_bound ss hsz
  obtain ⟨n, hnn⟩ : ∃ n, n = ss.length := ⟨_, rfl⟩
  rw [← hnn] at hn hjb ⊢
  have hmk := fun W : World => run_make_row' (P := Tryz.prog) 24 9 (.string ⟨#[]⟩) 16 Tryz.underlying24 info_strT rfl .i64 .i64 n (by omega) (by omega) W
  have HCE := Lib.hid hcells
  have HSZ := Lib.hid hsz
  have HN := Lib.hid hnn
  have HJB := Lib.hid hjb
  clear hcells hsz hnn hjb
  go_enter Tryz.func60, Tryz.ntmps60
  go_wp2_with fail
  go_loopw [36] (fun i wr => ∃ k : Nat, k ≤ n ∧ i = .int .i64 k ∧ Below w.heap.size w wr ∧ OutS wr w.heap.size ((ss.take k).map fun s => Value.string (quoted s)) (n - k)) (fun i _ => n - (intOf i).toNat)
  case atStart =>
    refine ⟨0, Nat.zero_le _, rfl, (Below.refl _ _).alloc (Nat.le_refl _) _, ?_⟩
    have := heap_alloc_new w (.cells (madeCells #[Value.string ⟨#[]⟩] n) 9)
    rw [made_str] at this ⊢
    simpa [OutS] using this
  case round =>
    obtain ⟨k, hk, rfl, hbw, hout⟩ := hrel
    by_cases hlt : k < n
    · obtain ⟨s, hs⟩ : ∃ s, ss[k]? = some s := ⟨_, List.getElem?_eq_getElem (by rw [← HN.out]; exact hlt)⟩
      have d0 : wr.cell? (ad.add k) = some (.iface 9 (.string s)) := (hbw.cell (by rw [block_of_add]; exact had)).trans (HCE.out k s hs)
      have HS := Lib.hid (HSZ.out s (List.mem_of_getElem? hs))
      have HK := Lib.hid hs
      have HOUT := Lib.hid hout
      have HB := Lib.hid hbw
      have hgw := hout.lt
      clear hs hout hbw
      go_wp2_with fail
      refine (quote_any _ s HS.out).mono ?_
      rintro e w2 ⟨rfl, hb2⟩
      obtain ⟨r, hr⟩ : ∃ r, n - k = r + 1 := ⟨n - k - 1, by omega⟩
      have ho2 := HOUT.out.below hb2
      rw [hr] at ho2
      have hlen : ((ss.take k).map fun s => Value.string (quoted s)).length = k := by rw [List.length_map, List.length_take]; have := HN.out; omega
      have hcell := ho2.cell
      have hfroz := ho2.frozen ((ss.take k).map fun s => Value.string (quoted s)).length
      have hset := ho2.set (.string (quoted s))
      rw [hlen] at hcell hfroz hset
      have hlt2 := ho2.lt
      have HSET := Lib.hid hset
      have HR := Lib.hid hr
      have HB2 := Lib.hid (HB.out.trans (hb2.mono HB.out.size))
      clear hset hr ho2 hb2 hlen
      go_wp2_with fail
      go_roundw
      case rel =>
        refine ⟨k + 1, by omega, by go_num, HB2.out.setCell (by simp) _, ?_⟩
        have h1 := HSET.out
        have e : ss.take (k + 1) = ss.take k ++ [s] := by
          obtain ⟨hl, rfl⟩ := List.getElem?_eq_some_iff.1 HK.out
          rw [List.take_add_one, List.getElem?_eq_getElem hl]; rfl
        rw [e, List.map_append, show n - (k + 1) = r by have := HR.out; omega]
        exact h1
      case measure => simp [intOf]; omega
    · have hkn : k = n := by omega
      have e1 : ss.take k = ss := List.take_of_length_le (by have := HN.out; omega)
      rw [e1, show n - k = 0 by omega] at hout
      have hJ := join_any wr w.heap.size n (ss.map quoted) ⟨#[32]⟩ (fun j x hx => by
        refine hout.at_ ?_
        rw [List.getElem?_map] at hx ⊢
        cases hs : ss[j]? with
        | none => rw [hs] at hx; cases hx
        | some s => rw [hs] at hx; simp only [Option.map_some, Option.some.injEq] at hx ⊢; rw [hx]) hout.lt (by rw [List.length_map]; have := HN.out; omega) (by rw [List.length_map]; have := HN.out; omega)
        (by
          have h1 := HJB.out
          rw [List.map_map]
          have e : (fun s : ByteArray => s.data.toList) ∘ quoted = fun s => shq s.data.toList := by funext s; simp [quoted]
          rw [e]
          show (Lib.join (ss.map fun s => shq s.data.toList) [32]).length ≤ _
          omega)
      have e2 : (ss.map quoted).map (fun s : ByteArray => s.data.toList) = ss.map fun s => shq s.data.toList := by
        rw [List.map_map]
        refine List.map_congr_left fun s _ => ?_
        simp [quoted]
      rw [e2, List.length_map, ← HN.out] at hJ
      have HJ := Lib.hid hJ
      have HB := Lib.hid hbw
      clear hJ hout hbw e1 e2
      go_wp2_with fail
      refine HJ.out.mono ?_
      rintro e w2 ⟨rfl, hb2⟩
      have HB2 := Lib.hid (HB.out.trans (hb2.mono HB.out.size))
      clear hb2
      go_wp2_with fail
      go_ret
      exact ⟨rfl, HB2.out⟩
end Go.Proofs.YtpigccnlembfdaaGreatDoor
