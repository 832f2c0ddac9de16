/- The walk of spec.Nul at any tree. Conditions: as the theorem states. -/
import Derived.Test.YtpigccnlembfdaaGreatDoorShellW
namespace Go.Proofs.YtpigccnlembfdaaGreatDoor
open Go.RowKit Go.Deep

/-- No byte is 0. -/
def NoNul (s : ByteArray) : Prop := ∀ c ∈ s.data.toList, c ≠ 0
/-- What Nul leaves. -/
def NulV (x : V) (w : World) (e : Ending) (w' : World) : Prop := ∃ b, e = .returned (.bool b) ∧ Below w.heap.size w w' ∧ (b = false → NoNul x.text ∧ ∀ y ∈ x.list, NoNul y.text)
theorem noNul_take {s : ByteArray} {q : Nat} (h : ∀ c ∈ s.data.toList.take q, c ≠ 0) (hq : s.size ≤ q) : NoNul s := fun c hc => by
  have hl : s.data.toList.length = s.size := by simp
  refine h c ?_
  rw [List.take_of_length_le (by omega)]
  exact hc
theorem noNul_next {s : ByteArray} {q : Nat} {c : UInt8} (h : ∀ c ∈ s.data.toList.take q, c ≠ 0) (hc : s.data.toList[q]? = some c) (h0 : c ≠ 0) : ∀ c ∈ s.data.toList.take (q + 1), c ≠ 0 := by
  have e : s.data.toList.take (q + 1) = s.data.toList.take q ++ [c] := by
    obtain ⟨hl, rfl⟩ := List.getElem?_eq_some_iff.1 hc
    rw [List.take_add_one, List.getElem?_eq_getElem hl]; rfl
  rw [e]
  intro d hd
  rcases List.mem_append.1 hd with hd | hd
  · exact h d hd
  · rw [List.mem_singleton.1 hd]; exact h0
theorem byte_at {s : ByteArray} {q : Nat} (hlt : q < s.size) : ∃ c, s.data.toList[q]? = some c ∧ s[q]'hlt = c := by
  have hl : q < s.data.toList.length := by have : s.data.toList.length = s.size := by simp
                                           omega
  refine ⟨_, List.getElem?_eq_getElem hl, ?_⟩
  simp; rfl
set_option maxRecDepth 100000 in
set_option maxHeartbeats 4000000 in
theorem nulV_any (w : World) (x : V) (B : Nat) (hB : B ≤ w.heap.size) (hin : x.In w B) (hs : x.text.size ≤ 1000000) (hsl : ∀ y ∈ x.list, y.text.size ≤ 1000000) (hl : x.list.length ≤ 1000) :
    Calls Tryz.prog 15 #[x.val] w (NulV x w) := by
  obtain ⟨Q, hQ⟩ : ∃ Q, Q = NulV x w := ⟨_, rfl⟩
  rw [← hQ]
  have HQ : Hid (∀ e w' b, e = .returned (.bool b) → Below w.heap.size w w' → (b = false → NoNul x.text ∧ ∀ y ∈ x.list, NoNul y.text) → Q e w') := Lib.hid fun e w' b h1 h2 h3 => by rw [hQ]; exact ⟨b, h1, h2, h3⟩
  clear hQ
  obtain ⟨k, h, s, aL, cL, l, aK, cK, ks, aV, cV, vs⟩ := x
  unfold V.In at hin
  obtain ⟨-, hrow, -⟩ := hin
  simp only [V.text, V.list] at hs hsl hl HQ
  rw [V.val_mk]
  obtain ⟨b, hb⟩ : ∃ b, b = Value.slice aK ks.length cK := ⟨_, rfl⟩
  obtain ⟨cc, hcc⟩ : ∃ c, c = Value.slice aV vs.length cV := ⟨_, rfl⟩
  rw [← hb, ← hcc]
  obtain ⟨n, hn⟩ : ∃ n, n = l.length := ⟨_, rfl⟩
  rw [← hn] at hl ⊢
  have hbx := box_six w k h s (.slice aL n cL) b cc
  have hrw : Hid (∀ (i : Nat) (y : V), l[i]? = some y → ∃ ad, aL = some ad ∧ ∀ (j : Nat) (u : Value), y.cells[j]? = some u → (w.alloc (.cells #[.int .i64 k, .int .i64 h, .string s, .slice aL n cL, b, cc] 26)).cell? (ad.add (i * 6 + j)) = some u) := Lib.hid fun i y hy => by
    obtain ⟨ad, e, hlt, hc⟩ := hrow (by rintro rfl; simp at hy)
    refine ⟨ad, e, fun j u hu => ?_⟩
    rw [World.cell?_alloc_lt _ _ _ (by rw [block_of_add]; omega)]
    exact hc i y hy j u hu
  have HB := Lib.hid (below1 w (.cells #[.int .i64 k, .int .i64 h, .string s, .slice aL n cL, b, cc] 26))
  have r2 := hbx 2
  have r3 := hbx 3
  simp only [List.getElem?_toArray, List.getElem?_cons_zero, List.getElem?_cons_succ] at r2 r3
  have HN := Lib.hid hn
  have HSL := Lib.hid hsl
  clear hbx hb hcc hrow hn hsl
  go_enter Tryz.func15, Tryz.ntmps15
  go_wp2_with fail
  generalize w.alloc (.cells #[.int .i64 k, .int .i64 h, .string s, .slice aL n cL, b, cc] 26) = w1 at *
  go_loop [3] (fun i => ∃ q : Nat, q ≤ s.size ∧ i = .int .i64 q ∧ Hid (∀ c ∈ s.data.toList.take q, c ≠ 0)) (fun i => s.size - (intOf i).toNat)
  case atStart => exact ⟨0, Nat.zero_le _, rfl, Lib.hid (fun c hc => by simp at hc)⟩
  case round =>
    obtain ⟨q, hq, rfl, HX⟩ := hrel
    by_cases hlt : q < s.size
    · obtain ⟨c, hc, hsq⟩ := byte_at hlt
      have HCC := Lib.hid hc
      clear hc
      by_cases h0 : c = 0
      · subst h0
        go_wp2_with fail
        exact HQ.out _ _ true rfl HB.out (fun h => by cases h)
      · have hcn : ((c.toNat : Int) == 0) = false := by
          rw [beq_eq_false_iff_ne]
          intro e
          exact h0 (UInt8.toNat.inj (by simpa using e))
        have H0 := Lib.hid h0
        clear h0
        go_wp2_with fail
        refine ⟨⟨q + 1, by omega, by simp, Lib.hid (noNul_next HX.out HCC.out H0.out)⟩, by simp [intOf]; omega⟩
    · have hqs : (q : Int) = (s.size : Int) := by omega
      have HT := Lib.hid (noNul_take HX.out (by omega))
      clear HX
      go_wp2_with fail
      go_loop [4] (fun i => ∃ k : Nat, k ≤ n ∧ i = .int .i64 k ∧ Hid (∀ (j : Nat) (y : V), j < k → l[j]? = some y → NoNul y.text)) (fun i => n - (intOf i).toNat)
      case atStart => exact ⟨0, Nat.zero_le _, rfl, Lib.hid (fun j y hj => by omega)⟩
      case round =>
        obtain ⟨k, hk, rfl, HL⟩ := hrel
        by_cases hkn : k < n
        · obtain ⟨y, hy⟩ : ∃ y, l[k]? = some y := ⟨_, List.getElem?_eq_getElem (by rw [← HN.out]; exact hkn)⟩
          obtain ⟨ad, rfl, hc⟩ := hrw.out k y hy
          have hyt := HSL.out y (List.mem_of_getElem? hy)
          have HY := Lib.hid hy
          obtain ⟨yk, yh, yt, yaL, ycL, yl, yaK, ycK, yks, yaV, ycV, yvs⟩ := y
          obtain ⟨-, -, d2, -⟩ := six hc
          have hyt2 : yt.size ≤ 1000000 := hyt
          clear hc hy hyt
          go_wp2_with fail
          go_loop [5] (fun i => ∃ q : Nat, q ≤ yt.size ∧ i = .int .i64 q ∧ Hid (∀ c ∈ yt.data.toList.take q, c ≠ 0)) (fun i => yt.size - (intOf i).toNat)
          case atStart => exact ⟨0, Nat.zero_le _, rfl, Lib.hid (fun c hc => by simp at hc)⟩
          case round =>
            obtain ⟨q, hq, rfl, HX⟩ := hrel
            by_cases hlt : q < yt.size
            · obtain ⟨c, hc, hsq⟩ := byte_at hlt
              have HCC := Lib.hid hc
              clear hc
              by_cases h0 : c = 0
              · subst h0
                go_wp2_with fail
                exact HQ.out _ _ true rfl HB.out (fun h => by cases h)
              · have hcn : ((c.toNat : Int) == 0) = false := by
                  rw [beq_eq_false_iff_ne]
                  intro e
                  exact h0 (UInt8.toNat.inj (by simpa using e))
                have H0 := Lib.hid h0
                clear h0
                go_wp2_with fail
                refine ⟨⟨q + 1, by omega, by simp, Lib.hid (noNul_next HX.out HCC.out H0.out)⟩, by simp [intOf]; omega⟩
            · have hqs : (q : Int) = (yt.size : Int) := by omega
              have HTT := Lib.hid (noNul_take HX.out (by omega))
              clear HX
              go_wp2_with fail
              refine ⟨⟨k + 1, by omega, by simp, Lib.hid (fun j y hj hy => ?_)⟩, by simp [intOf]; omega⟩
              by_cases hjk : j = k
              · subst hjk
                have := HY.out.symm.trans hy
                injection this with this
                rw [← this]
                exact HTT.out
              · exact HL.out j y (by omega) hy
        · have hkk : (k : Int) = (n : Int) := by omega
          have HALL := Lib.hid (fun (y : V) (hy : y ∈ l) => by
            obtain ⟨j, hj, rfl⟩ := List.mem_iff_getElem.1 hy
            exact HL.out j _ (by have := HN.out; omega) (List.getElem?_eq_getElem hj) : ∀ y ∈ l, NoNul y.text)
          go_wp2_with fail
          exact HQ.out _ _ false rfl HB.out (fun _ => ⟨HT.out, HALL.out⟩)
end Go.Proofs.YtpigccnlembfdaaGreatDoor
