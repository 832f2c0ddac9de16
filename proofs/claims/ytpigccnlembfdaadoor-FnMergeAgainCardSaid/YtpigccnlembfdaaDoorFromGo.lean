/- The walk of impl.fromGo at whatever is represented and right: a right tree comes back. Conditions: as each theorem states. -/
import Derived.Test.YtpigccnlembfdaaDoorMapWalk
import Derived.Test.YtpigccnlembfdaaDoorMerge
namespace Go.Proofs.YtpigccnlembfdaaDoor
open Go.RowKit

theorem from_close {w w' w1 : World} {X : V} {j : J} (hb : Below w.heap.size w w') (hs : w.heap.size < w'.heap.size) (hb1 : Below w'.heap.size w' w1) (hin : X.In w1 w1.heap.size) (hbl : X.Blocks (From w'.heap.size)) (hj : X.toJ = j) (hg : X.Good) (hp : X.parts = j.parts) (v0 v1 v2 v3 v4 v5 : Value) :
    FromPost j w (.returned (.tuple #[X.val, .bool true])) ((((((w1.setCell ⟨w.heap.size, 0, none⟩ v0).setCell ⟨w.heap.size, 1, none⟩ v1).setCell ⟨w.heap.size, 2, none⟩ v2).setCell ⟨w.heap.size, 3, none⟩ v3).setCell ⟨w.heap.size, 4, none⟩ v4).setCell ⟨w.heap.size, 5, none⟩ v5) := by
  have hgs := grown_six w1 w.heap.size v0 v1 v2 v3 v4 v5
  refine ⟨X, rfl, below_six (hb.trans (hb1.mono hb.size)) (Nat.le_refl _) _ _ _ _ _ _, V.In.stay (B := w1.heap.size) hgs.size (fun p hp hlt => World.cell?_of_block (hgs.block p.block hlt (fun e => ?_))) hin hbl, hbl.more (fun b hb => ?_), hj, hg, hp⟩
  · have := Option.some.inj e
    simp only [From] at hp; omega
  · simp only [From] at hb ⊢; omega

set_option maxRecDepth 100000 in
set_option maxHeartbeats 1000000 in
theorem fromGo_list (w : World) (A : Option Addr) (n c : Nat) (j : J) (hc : ∀ w', Below w.heap.size w w' → Calls Tryd.prog 33 #[.slice A n c] w' (FromPost j w')) :
    Calls Tryd.prog 25 #[.iface 53 (.slice A n c)] w (FromPost j w) := by
  have HC := Lib.hid hc
  have HR := Lib.hid (Cells.new w 26 #[.int .i64 0, .int .i64 0, .string ⟨#[]⟩, .slice none 0 0, .slice none 0 0, .slice none 0 0])
  clear hc
  go_enter Tryd.func25, Tryd.ntmps25
  go_wp2_with (go_at_call 33; refine (HC.out _ (below1 _ _)).mono ?_; rintro e w1 ⟨X, rfl, hb1, hin1, hbl1, hj1, hg1, hp1⟩; have hR := HR.out.below hb1; have r0 := hR.cell 0; have r1 := hR.cell 1; have r2 := hR.cell 2; have r3 := hR.cell 3; have r4 := hR.cell 4; have r5 := hR.cell 5; have f0 := hR.frozen 0; have f1 := hR.frozen 1; have f2 := hR.frozen 2; have f3 := hR.frozen 3; have f4 := hR.frozen 4; have f5 := hR.frozen 5; have hlt := hR.lt; simp at r0 r1 r2 r3 r4 r5; clear hR; have HF := Lib.hid (from_close (below1 w _) (by simp) hb1 hin1 hbl1 hj1 hg1 hp1); clear hb1 hin1 hbl1 hj1 hg1 hp1; obtain ⟨xk, xh, xt, xaL, xcL, xl, xaK, xcK, xks, xaV, xcV, xvs⟩ := X; rw [V.val_mk] at HF ⊢; generalize xl.length = ml at *; generalize xks.length = mk at *; generalize xvs.length = mv at *)
  refine bodyPost_ret (v := .tuple #[.agg #[.int .i64 xk, .int .i64 xh, .string xt, .slice xaL ml xcL, .slice xaK mk xcK, .slice xaV mv xcV], .bool true]) (by simp [results, Tryd.results25, go_sem, r0, r1, r2, r3, r4, r5]) rfl ?_
  exact HF.out _ _ _ _ _ _

set_option maxRecDepth 100000 in
set_option maxHeartbeats 1000000 in
theorem fromGo_map (w : World) (b : Nat) (j : J) (hc : ∀ w', Below w.heap.size w w' → Calls Tryd.prog 34 #[.map (some b)] w' (FromPost j w')) :
    Calls Tryd.prog 25 #[.iface 42 (.map (some b))] w (FromPost j w) := by
  have HC := Lib.hid hc
  have HR := Lib.hid (Cells.new w 26 #[.int .i64 0, .int .i64 0, .string ⟨#[]⟩, .slice none 0 0, .slice none 0 0, .slice none 0 0])
  clear hc
  go_enter Tryd.func25, Tryd.ntmps25
  go_wp2_with (go_at_call 34; refine (HC.out _ (below1 _ _)).mono ?_; rintro e w1 ⟨X, rfl, hb1, hin1, hbl1, hj1, hg1, hp1⟩; have hR := HR.out.below hb1; have r0 := hR.cell 0; have r1 := hR.cell 1; have r2 := hR.cell 2; have r3 := hR.cell 3; have r4 := hR.cell 4; have r5 := hR.cell 5; have f0 := hR.frozen 0; have f1 := hR.frozen 1; have f2 := hR.frozen 2; have f3 := hR.frozen 3; have f4 := hR.frozen 4; have f5 := hR.frozen 5; have hlt := hR.lt; simp at r0 r1 r2 r3 r4 r5; clear hR; have HF := Lib.hid (from_close (below1 w _) (by simp) hb1 hin1 hbl1 hj1 hg1 hp1); clear hb1 hin1 hbl1 hj1 hg1 hp1; obtain ⟨xk, xh, xt, xaL, xcL, xl, xaK, xcK, xks, xaV, xcV, xvs⟩ := X; rw [V.val_mk] at HF ⊢; generalize xl.length = ml at *; generalize xks.length = mk at *; generalize xvs.length = mv at *)
  refine bodyPost_ret (v := .tuple #[.agg #[.int .i64 xk, .int .i64 xh, .string xt, .slice xaL ml xcL, .slice xaK mk xcK, .slice xaV mv xcV], .bool true]) (by simp [results, Tryd.results25, go_sem, r0, r1, r2, r3, r4, r5]) rfl ?_
  exact HF.out _ _ _ _ _ _

theorem fromGo_any (N : Nat) : ∀ (j : J) (x : Value) (w : World) (S : Nat → Prop), j.parts ≤ N → j.parts ≤ 1000000 → JFine j → Rep w S j x → Calls Tryd.prog 25 #[x] w (FromPost j w) := by
  induction N with
  | zero => intro j x w S h; have := j.parts_pos; omega
  | succ N ih =>
    intro j x w S hN hp hf hr
    cases j with
    | null => unfold Rep at hr; subst hr; exact fromGo_null w
    | bool b => unfold Rep at hr; subst hr; exact fromGo_boolJ w b
    | int n => unfold Rep at hr; obtain ⟨rfl, _⟩ := hr; unfold JFine at hf; exact fromGo_int w n hf
    | flt b =>
      unfold Rep at hr; subst hr
      unfold JFine at hf
      obtain ⟨h, h1, h2, rfl⟩ := hf
      exact fromGo_flt w h h1 h2
    | str s => unfold Rep at hr; obtain ⟨rfl, h1⟩ := hr; unfold JFine at hf; exact fromGo_str w s h1 hf
    | list l =>
      unfold Rep at hr
      obtain ⟨A, c, us, rfl, hlc, hcc, hall, hcells⟩ := hr
      unfold JFine at hf
      simp only [J.parts] at hN hp
      have hlen := jparts_length l
      refine fromGo_list w A l.length c (.list l) fun w' hb => ?_
      refine listFrom_any w' A c l us hall.length (fun hn => ?_) (by omega) fun i j u hj hu w'' hb2 => ?_
      · obtain ⟨ad, e, _, hlt, hc⟩ := hcells hn
        exact ⟨ad, e, Nat.lt_of_lt_of_le hlt hb.size, fun i u hu => (hb.cell (by rw [block_of_add]; exact hlt)).trans (hc i u hu)⟩
      · have hm := List.mem_of_getElem? hj
        have hq := jparts_mem hm
        exact ih j u w'' S (by omega) (by omega) (jfineAll_mem hf j hm) ((hall.at_ hj hu).below (hb.trans (hb2.mono hb.size)))
    | map ks vs =>
      unfold Rep at hr
      obtain ⟨b, m, us, rfl, _, hm, hall, hl, hris, hsz, hmu⟩ := hr
      unfold JFine at hf
      simp only [J.parts] at hN hp
      have hlen := jparts_length vs
      refine fromGo_map w b (.map ks vs) fun w' hb => ?_
      refine mapFrom_any w' b m ks vs us (hm.of_block (hb.block b hm.lt)) hl hris hsz hmu hall.length hf.1.1 (by omega) fun i j u hj hu w'' hb2 => ?_
      have hmm := List.mem_of_getElem? hj
      have hq := jparts_mem hmm
      exact ih j u w'' S (by omega) (by omega) (jfineAll_mem hf.2.2 j hmm) ((hall.at_ hj hu).below (hb.trans (hb2.mono hb.size)))
end Go.Proofs.YtpigccnlembfdaaDoor
