/- The walks of impl.half and of impl.fromGo at values that hold no others: what is represented comes back as a right tree. Conditions: as each theorem states. -/
import Derived.Test.YtpigccnlembfdaaDoorHalf
namespace Go.Proofs.YtpigccnlembfdaaDoor
open Ieee Go.RowKit

theorem trunc_any (h : Int) (h0 : h ≠ 0) (h1 : -9007199254740992 < h) (h2 : h < 9007199254740992) (w : World) :
    Calls Tryd.prog 42 #[.float .f64 (ibits h)] w (fun e w' => e = .returned (.float .f64 (ibits h)) ∧ w' = w) := by
  have hd := run_trunc h h0 h1 h2
  go_enter Tryd.func42, Tryd.ntmps42
  go_wp2_with fail
  go_ret
  exact ⟨rfl, rfl⟩

set_option maxRecDepth 100000 in
set_option maxHeartbeats 1000000 in
theorem half_any (h : Int) (h0 : h ≠ 0) (h1 : -9007199254740992 < h) (h2 : h < 9007199254740992) (w : World) :
    Calls Tryd.prog 32 #[.float .f64 (ibits h)] w (Same0 w (.tuple #[.agg #[.int .i64 3, .int .i64 h, .string ⟨#[]⟩, .slice none 0 0, .slice none 0 0, .slice none 0 0], .bool true])) := by
  have e1 := order_self h h0 h1 h2
  have e2 := order_lo h h0 h1 h2
  have e3 := order_hi h h0 h1 h2
  have f1 : FloatKind.f64.format.order (ibits h) (ibits h) = some .eq := e1
  have f2 : FloatKind.f64.format.order (ibits h) 14109777632551763968 = some .gt := e2
  have f3 : FloatKind.f64.format.order (ibits h) 4886405595696988160 = some .lt := e3
  have hc := fun w => run_convert_float_int (P := Tryd.prog) w 52 3 .f64 .i64 (ibits h) h (by rw [Tryd.underlying52]; rfl) Tryd.underlying3 (int_ibits h h0 h1 h2)
  have hT := Lib.hid (trunc_any h h0 h1 h2)
  clear e1 e2 e3
  generalize ibits h = b at *
  go_enter Tryd.func32, Tryd.ntmps32
  go_wp2_with (go_at_call 42; refine (hT.out _).mono ?_; rintro e wb ⟨rfl, rfl⟩)
  refine bodyPost_ret (v := .tuple #[.agg #[.int .i64 3, .int .i64 h, .string ⟨#[]⟩, .slice none 0 0, .slice none 0 0, .slice none 0 0], .bool true]) (by simp [results, Tryd.results32, go_sem]) rfl ⟨rfl, below1 _ _⟩

mutual
/-- The blocks that a tree goes through are of S. -/
def V.Blocks (S : Nat → Prop) : V → Prop
  | .mk _ _ _ aL _ l aK _ ks aV _ vs => (l ≠ [] → ∀ ad, aL = some ad → S ad.block) ∧ (ks ≠ [] → ∀ ad, aK = some ad → S ad.block) ∧ (vs ≠ [] → ∀ ad, aV = some ad → S ad.block) ∧ BlocksAll S l ∧ BlocksAll S vs
def BlocksAll (S : Nat → Prop) : List V → Prop
  | [] => True
  | x :: r => V.Blocks S x ∧ BlocksAll S r
end
mutual
theorem V.Blocks.more {S S' : Nat → Prop} (h : ∀ b, S b → S' b) : ∀ {x : V}, V.Blocks S x → V.Blocks S' x
  | .mk k h0 t aL cL l aK cK ks aV cV vs, hx => by
    unfold V.Blocks at hx ⊢
    exact ⟨fun a b c => h _ (hx.1 a b c), fun a b c => h _ (hx.2.1 a b c), fun a b c => h _ (hx.2.2.1 a b c), BlocksAll.more h hx.2.2.2.1, BlocksAll.more h hx.2.2.2.2⟩
theorem BlocksAll.more {S S' : Nat → Prop} (h : ∀ b, S b → S' b) : ∀ {l : List V}, BlocksAll S l → BlocksAll S' l
  | [], _ => by unfold BlocksAll; trivial
  | x :: r, hx => by unfold BlocksAll at hx ⊢; exact ⟨V.Blocks.more h hx.1, BlocksAll.more h hx.2⟩
end
mutual
/-- A tree lasts while the blocks that it goes through are as they were. -/
theorem V.In.stay {w w' : World} {B B' : Nat} {S : Nat → Prop} (hB : B ≤ B') (hk : ∀ p : Addr, S p.block → p.block < B → w'.cell? p = w.cell? p) : ∀ {x : V}, V.In w B x → V.Blocks S x → V.In w' B' x
  | .mk k h t aL cL l aK cK ks aV cV vs, hx, hb => by
    unfold V.In at hx ⊢
    unfold V.Blocks at hb
    refine ⟨hx.1, fun hn => ?_, fun hn => ?_, fun hn => ?_, AllIn.stay hB hk hx.2.2.2.2.1 hb.2.2.2.1, AllIn.stay hB hk hx.2.2.2.2.2 hb.2.2.2.2⟩
    · obtain ⟨ad, e, h1, h2⟩ := hx.2.1 hn
      exact ⟨ad, e, by omega, fun i x hx' j u hu => (hk _ (by rw [block_of_add]; exact hb.1 hn ad e) (by rw [block_of_add]; exact h1)).trans (h2 i x hx' j u hu)⟩
    · obtain ⟨ad, e, h1, h2⟩ := hx.2.2.1 hn
      exact ⟨ad, e, by omega, fun j u hu => (hk _ (by rw [block_of_add]; exact hb.2.1 (by simpa using hn) ad e) (by rw [block_of_add]; exact h1)).trans (h2 j u hu)⟩
    · obtain ⟨ad, e, h1, h2⟩ := hx.2.2.2.1 hn
      exact ⟨ad, e, by omega, fun i x hx' j u hu => (hk _ (by rw [block_of_add]; exact hb.2.2.1 hn ad e) (by rw [block_of_add]; exact h1)).trans (h2 i x hx' j u hu)⟩
theorem AllIn.stay {w w' : World} {B B' : Nat} {S : Nat → Prop} (hB : B ≤ B') (hk : ∀ p : Addr, S p.block → p.block < B → w'.cell? p = w.cell? p) : ∀ {l : List V}, AllIn w B l → BlocksAll S l → AllIn w' B' l
  | [], _, _ => by unfold AllIn; trivial
  | x :: r, h, hb => by
    unfold AllIn at h ⊢
    unfold BlocksAll at hb
    exact ⟨V.In.stay hB hk h.1 hb.1, AllIn.stay hB hk h.2 hb.2⟩
end
theorem leaf_blocks (S : Nat → Prop) (k h : Int) (t : ByteArray) : (V.mk k h t none 0 [] none 0 [] none 0 []).Blocks S := by
  unfold V.Blocks
  exact ⟨fun h => absurd rfl h, fun h => absurd rfl h, fun h => absurd rfl h, by unfold BlocksAll; trivial, by unfold BlocksAll; trivial⟩

/-- What fromGo leaves. -/
def FromPost (j : J) (w : World) (e : Ending) (w' : World) : Prop :=
  ∃ X : V, e = .returned (.tuple #[X.val, .bool true]) ∧ Below w.heap.size w w' ∧ X.In w' w'.heap.size ∧ X.Blocks (From w.heap.size) ∧ X.toJ = j ∧ X.Good ∧ X.parts = j.parts

theorem rowsV_nil (w : World) (B : Nat) (A : Option Addr) : RowsV w B A [] := fun h => absurd rfl h
theorem reads_nil (w : World) (B : Nat) (A : Option Addr) : Reads w B A [] := fun h => absurd rfl h
theorem leaf_in (w : World) (B : Nat) (k h : Int) (t : ByteArray) (hk : -9223372036854775808 ≤ k ∧ k ≤ 9223372036854775807) (hh : -9223372036854775808 ≤ h ∧ h ≤ 9223372036854775807) (ht : t.size ≤ 140737488351232) :
    (V.mk k h t none 0 [] none 0 [] none 0 []).In w B := by
  unfold V.In
  refine ⟨?_, rowsV_nil _ _ _, reads_nil _ _ _, rowsV_nil _ _ _, by unfold AllIn; trivial, by unfold AllIn; trivial⟩
  unfold V.Own
  refine ⟨hk, hh, ht, ?_⟩
  simp
theorem valid_empty : Lib.validD (⟨#[]⟩ : ByteArray).data.toList = true := by decide
theorem keys_nil : Keys [] := ⟨fun s hs => (by cases hs), fun i s s' h => (by simp at h)⟩
theorem leaf_good (k h : Int) (t : ByteArray) (hk : 0 ≤ k ∧ k ≤ 4) (hh : C2 h) (h3 : k = 3 ∨ h = 0) (h4 : k = 4 ∨ t.toList = []) (ht : Lib.validD t.data.toList = true) : (V.mk k h t none 0 [] none 0 [] none 0 []).Good := by
  unfold V.Good
  exact ⟨⟨hk.1, by omega, h3, h4, Or.inr rfl, Or.inr rfl, rfl⟩, hh, ht, keys_nil, by unfold GoodAll; trivial, by unfold GoodAll; trivial⟩
theorem empty_list : (⟨#[]⟩ : ByteArray).toList = [] := by simp [ByteArray.toList_eq]
theorem c2_zero : C2 0 := ⟨by decide, by decide, Or.inl rfl⟩

set_option maxRecDepth 100000 in
set_option maxHeartbeats 1000000 in
theorem fromGo_null (w : World) : Calls Tryd.prog 25 #[.nilIface] w (FromPost .null w) := by
  go_enter Tryd.func25, Tryd.ntmps25
  go_wp2_with fail
  refine bodyPost_ret (v := .tuple #[.agg #[.int .i64 0, .int .i64 0, .string ⟨#[]⟩, .slice none 0 0, .slice none 0 0, .slice none 0 0], .bool true]) (by simp [results, Tryd.results25, go_sem]) rfl ?_
  exact ⟨.mk 0 0 ⟨#[]⟩ none 0 [] none 0 [] none 0 [], rfl, below1 _ _, leaf_in _ _ _ _ _ (by decide) (by decide) (by decide), leaf_blocks _ _ _ _, by simp [V.toJ], leaf_good _ _ _ (by decide) c2_zero (Or.inr rfl) (Or.inr empty_list) valid_empty, by simp [V.parts, partsAll, J.parts]⟩
set_option maxRecDepth 100000 in
set_option maxHeartbeats 1000000 in
theorem fromGo_boolJ (w : World) (b : Bool) : Calls Tryd.prog 25 #[.iface 4 (.bool b)] w (FromPost (.bool b) w) := by
  cases b
  · go_enter Tryd.func25, Tryd.ntmps25
    go_wp2_with fail
    refine bodyPost_ret (v := .tuple #[.agg #[.int .i64 1, .int .i64 0, .string ⟨#[]⟩, .slice none 0 0, .slice none 0 0, .slice none 0 0], .bool true]) (by simp [results, Tryd.results25, go_sem]) rfl ?_
    exact ⟨.mk 1 0 ⟨#[]⟩ none 0 [] none 0 [] none 0 [], rfl, below1 _ _, leaf_in _ _ _ _ _ (by decide) (by decide) (by decide), leaf_blocks _ _ _ _, by simp [V.toJ], leaf_good _ _ _ (by decide) c2_zero (Or.inr rfl) (Or.inr empty_list) valid_empty, by simp [V.parts, partsAll, J.parts]⟩
  · go_enter Tryd.func25, Tryd.ntmps25
    go_wp2_with fail
    refine bodyPost_ret (v := .tuple #[.agg #[.int .i64 2, .int .i64 0, .string ⟨#[]⟩, .slice none 0 0, .slice none 0 0, .slice none 0 0], .bool true]) (by simp [results, Tryd.results25, go_sem]) rfl ?_
    exact ⟨.mk 2 0 ⟨#[]⟩ none 0 [] none 0 [] none 0 [], rfl, below1 _ _, leaf_in _ _ _ _ _ (by decide) (by decide) (by decide), leaf_blocks _ _ _ _, by simp [V.toJ], leaf_good _ _ _ (by decide) c2_zero (Or.inr rfl) (Or.inr empty_list) valid_empty, by simp [V.parts, partsAll, J.parts]⟩
set_option maxRecDepth 100000 in
set_option maxHeartbeats 1000000 in
theorem fromGo_int (w : World) (n : Int) (h : -9007199254740992 ≤ n ∧ n ≤ 9007199254740992) : Calls Tryd.prog 25 #[.iface 3 (.int .i64 n)] w (FromPost (.int n) w) := by
  have e1 : IntKind.i64.wrap (2 * n) = 2 * n := IntWalk.i64_in _ (by omega)
  have e2 : decide (n ≥ -4611686018427387904) = true := by simp; omega
  have e3 : decide (n ≤ 4611686018427387903) = true := by simp; omega
  have e4 : decide (-4611686018427387904 ≤ n) = true := by simp; omega
  have h5 : -4611686018427387904 ≤ n := by omega
  have h6 : n ≤ 4611686018427387903 := by omega
  have HH := Lib.hid h
  clear h
  go_enter Tryd.func25, Tryd.ntmps25
  go_wp2_with fail
  refine bodyPost_ret (v := .tuple #[.agg #[.int .i64 3, .int .i64 (2 * n), .string ⟨#[]⟩, .slice none 0 0, .slice none 0 0, .slice none 0 0], .bool true]) (by simp [results, Tryd.results25, go_sem]) rfl ?_
  have hn := HH.out
  have hm : (2 * n).tmod 2 = 0 := Int.mul_tmod_right ..
  have hd : (2 * n).tdiv 2 = n := Int.mul_tdiv_cancel_left _ (by decide)
  exact ⟨.mk 3 (2 * n) ⟨#[]⟩ none 0 [] none 0 [] none 0 [], rfl, below1 _ _, leaf_in _ _ _ _ _ (by decide) (by omega) (by decide), leaf_blocks _ _ _ _, by simp [V.toJ, hm, hd], leaf_good _ _ _ (by decide) ⟨by omega, by omega, Or.inl hm⟩ (Or.inl rfl) (Or.inr empty_list) valid_empty, by simp [V.parts, partsAll, J.parts]⟩
set_option maxRecDepth 100000 in
set_option maxHeartbeats 1000000 in
theorem fromGo_str (w : World) (s : ByteArray) (hs : s.size ≤ 140737488351232) (hv : Lib.validD s.data.toList = true) : Calls Tryd.prog 25 #[.iface 9 (.string s)] w (FromPost (.str s) w) := by
  go_enter Tryd.func25, Tryd.ntmps25
  go_wp2_with fail
  refine bodyPost_ret (v := .tuple #[.agg #[.int .i64 4, .int .i64 0, .string s, .slice none 0 0, .slice none 0 0, .slice none 0 0], .bool true]) (by simp [results, Tryd.results25, go_sem]) rfl ?_
  exact ⟨.mk 4 0 s none 0 [] none 0 [] none 0 [], rfl, below1 _ _, leaf_in _ _ _ _ _ (by decide) (by decide) hs, leaf_blocks _ _ _ _, by simp [V.toJ], leaf_good _ _ _ (by decide) c2_zero (Or.inr rfl) (Or.inl rfl) hv, by simp [V.parts, partsAll, J.parts]⟩

/-- A block of cells that the walk itself laid. -/
def Cells (w : World) (g : Nat) (t : TypeId) (cs : Array Value) : Prop := w.heap[g]? = some (.cells cs t (0, 0))
theorem Cells.new (w : World) (t : TypeId) (cs : Array Value) : Cells (w.alloc (.cells cs t)) w.heap.size t cs := heap_alloc_new w _
theorem Cells.lt {w : World} {g : Nat} {t : TypeId} {cs : Array Value} (h : Cells w g t cs) : g < w.heap.size := (Array.getElem?_eq_some_iff.1 h).1
theorem Cells.below {w w1 : World} {g : Nat} {t : TypeId} {cs : Array Value} (h : Cells w g t cs) (hb : Below w.heap.size w w1) : Cells w1 g t cs := (hb.block g h.lt).trans h
theorem Cells.keep {w w1 : World} {g : Nat} {t : TypeId} {cs : Array Value} (h : Cells w g t cs) {row : Option Nat} (hb : w.grownBy w1 row) (hr : some g ≠ row) : Cells w1 g t cs := (hb.block g h.lt hr).trans h
theorem Cells.cell {w : World} {g : Nat} {t : TypeId} {cs : Array Value} (h : Cells w g t cs) (i : Nat) : w.cell? ⟨g, i, none⟩ = cs[i]? := cell_of_row w g i _ _ _ h
theorem Cells.frozen {w : World} {g : Nat} {t : TypeId} {cs : Array Value} (h : Cells w g t cs) (i : Nat) : w.frozen? ⟨g, i, none⟩ = false := by
  unfold Cells at h; simp [World.frozen?, h]

/-- Six stores into a block of the walk's own. -/
theorem below_six {w0 w : World} {g : Nat} (h : Below w0.heap.size w0 w) (hg : w0.heap.size ≤ g) (v0 v1 v2 v3 v4 v5 : Value) :
    Below w0.heap.size w0 ((((((w.setCell ⟨g, 0, none⟩ v0).setCell ⟨g, 1, none⟩ v1).setCell ⟨g, 2, none⟩ v2).setCell ⟨g, 3, none⟩ v3).setCell ⟨g, 4, none⟩ v4).setCell ⟨g, 5, none⟩ v5) :=
  (((((h.setCell hg _).setCell hg _).setCell hg _).setCell hg _).setCell hg _).setCell hg _
theorem grown_six (w : World) (g : Nat) (v0 v1 v2 v3 v4 v5 : Value) :
    w.grownBy ((((((w.setCell ⟨g, 0, none⟩ v0).setCell ⟨g, 1, none⟩ v1).setCell ⟨g, 2, none⟩ v2).setCell ⟨g, 3, none⟩ v3).setCell ⟨g, 4, none⟩ v4).setCell ⟨g, 5, none⟩ v5) (some g) :=
  (((((grown_set w g 0 v0).trans (grown_set _ g 1 v1)).trans (grown_set _ g 2 v2)).trans (grown_set _ g 3 v3)).trans (grown_set _ g 4 v4)).trans (grown_set _ g 5 v5)

set_option maxRecDepth 100000 in
set_option maxHeartbeats 1000000 in
theorem fromGo_flt (w : World) (h : Int) (hh : C2 h) (ho : h.tmod 2 ≠ 0) : Calls Tryd.prog 25 #[.iface 52 (.float .f64 (hbits h))] w (FromPost (.flt (hbits h)) w) := by
  obtain ⟨h0, h1, h2⟩ := odd_bound hh ho
  have hf := fun w => run_float_arith (P := Tryd.prog) w .mul 52 .f64 4611686018427387904 (hbits h) (ibits h) (twice_bits h h0 h1 h2)
  have HC := Lib.hid (fun w => half_any h h0 h1 h2 w)
  have HR := Lib.hid (Cells.new w 26 #[.int .i64 0, .int .i64 0, .string ⟨#[]⟩, .slice none 0 0, .slice none 0 0, .slice none 0 0])
  have HH := Lib.hid (And.intro hh ho)
  have HB := Lib.hid (And.intro h1 h2)
  clear hh ho h0 h1 h2
  generalize hb : hbits h = b at *
  have HBB := Lib.hid hb
  clear hb
  go_enter Tryd.func25, Tryd.ntmps25
  go_wp2_with (go_at_call 32; refine (HC.out _).mono ?_; rintro e w1 ⟨rfl, hb1⟩; have hR := HR.out.below hb1; have r0 := hR.cell 0; have r1 := hR.cell 1; have r2 := hR.cell 2; have r3 := hR.cell 3; have r4 := hR.cell 4; have r5 := hR.cell 5; have f0 := hR.frozen 0; have f1 := hR.frozen 1; have f2 := hR.frozen 2; have f3 := hR.frozen 3; have f4 := hR.frozen 4; have f5 := hR.frozen 5; have hlt := hR.lt; simp at r0 r1 r2 r3 r4 r5; clear hR)
  refine bodyPost_ret (v := .tuple #[.agg #[.int .i64 3, .int .i64 h, .string ⟨#[]⟩, .slice none 0 0, .slice none 0 0, .slice none 0 0], .bool true]) (by simp [results, Tryd.results25, go_sem, r0, r1, r2, r3, r4, r5]) rfl ?_
  have hB := HB.out
  have hbB : Below w.heap.size w w1 := (below1 w _).trans (hb1.mono (by simp))
  exact ⟨.mk 3 h ⟨#[]⟩ none 0 [] none 0 [] none 0 [], rfl, below_six hbB (Nat.le_refl _) _ _ _ _ _ _, leaf_in _ _ _ _ _ (by decide) (by omega) (by decide), leaf_blocks _ _ _ _, by simp [V.toJ, HH.out.2, HBB.out], leaf_good _ _ _ (by decide) HH.out.1 (Or.inl rfl) (Or.inr empty_list) valid_empty, by simp [V.parts, partsAll, J.parts]⟩
end Go.Proofs.YtpigccnlembfdaaDoor
