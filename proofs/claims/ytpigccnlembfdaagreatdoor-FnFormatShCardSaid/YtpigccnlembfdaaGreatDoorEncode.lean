/- The walks of the encoder's encode and of jsonMarshal at null, a bool, an int, a half. Conditions: as each theorem states. -/
import Derived.Test.YtpigccnlembfdaaGreatDoorEncF
import Derived.Test.YtpigccnlembfdaaGreatDoorStage
namespace Go.Proofs.YtpigccnlembfdaaGreatDoor
open Go.RowKit Go.Shelf

/-- An encoder and its builder, fresh. -/
structure Fresh (w : World) (B b E : Nat) : Prop where
  bld : Lib.IsBuilder 146 5 B b [] w
  enc : EncAt w E b
  le : B ≤ w.heap.size
  ne : E ≠ b
  base : B ≤ E
set_option maxRecDepth 100000 in
theorem encode_nil (w : World) (B b E : Nat) (h : Fresh w B b E) :
    Calls Tryz.prog 49 #[.pointer (some ⟨E, 0, none⟩), .nilIface] w (EncPost B b [110, 117, 108, 108] w) := by
  have e0 := h.enc.cell0
  have hlt := h.enc.lt
  have HWS := Lib.hid (writeString_any w B b [] (strL [110, 117, 108, 108]) h.bld (by decide) h.le)
  clear h
  go_enter Tryz.func49, Tryz.ntmps49
  go_wp2_with fail
  refine HWS.out.mono ?_
  rintro e w4 ⟨rfl, hat, hbel⟩
  have HF := Lib.hid (And.intro hat hbel)
  clear hat hbel
  go_wp2_with fail
  go_end0
  exact ⟨rfl, Or.inr HF.out.1, HF.out.2⟩
set_option maxRecDepth 100000 in
theorem encode_true (w : World) (B b E : Nat) (h : Fresh w B b E) :
    Calls Tryz.prog 49 #[.pointer (some ⟨E, 0, none⟩), .iface 4 (.bool true)] w (EncPost B b [116, 114, 117, 101] w) := by
  have e0 := h.enc.cell0
  have hlt := h.enc.lt
  have HWS := Lib.hid (writeString_any w B b [] (strL [116, 114, 117, 101]) h.bld (by decide) h.le)
  clear h
  go_enter Tryz.func49, Tryz.ntmps49
  go_wp2_with fail
  refine HWS.out.mono ?_
  rintro e w4 ⟨rfl, hat, hbel⟩
  have HF := Lib.hid (And.intro hat hbel)
  clear hat hbel
  go_wp2_with fail
  go_end0
  exact ⟨rfl, Or.inr HF.out.1, HF.out.2⟩
set_option maxRecDepth 100000 in
theorem encode_false (w : World) (B b E : Nat) (h : Fresh w B b E) :
    Calls Tryz.prog 49 #[.pointer (some ⟨E, 0, none⟩), .iface 4 (.bool false)] w (EncPost B b [102, 97, 108, 115, 101] w) := by
  have e0 := h.enc.cell0
  have hlt := h.enc.lt
  have HWS := Lib.hid (writeString_any w B b [] (strL [102, 97, 108, 115, 101]) h.bld (by decide) h.le)
  clear h
  go_enter Tryz.func49, Tryz.ntmps49
  go_wp2_with fail
  refine HWS.out.mono ?_
  rintro e w4 ⟨rfl, hat, hbel⟩
  have HF := Lib.hid (And.intro hat hbel)
  clear hat hbel
  go_wp2_with fail
  go_end0
  exact ⟨rfl, Or.inr HF.out.1, HF.out.2⟩
set_option maxRecDepth 100000 in
theorem encode_half (w : World) (B bb E b N k mant s : Nat) (h : Fresh w B bb E) (hN : N < 9007199254740992) (hk1 : 1 ≤ k) (hk : k ≤ 53) (hm : mant = (2 * N + 1) * 2 ^ (k - 1)) (hW : HalfW b s (1075 - k) mant) :
    Calls Tryz.prog 49 #[.pointer (some ⟨E, 0, none⟩), .iface 65 (.float .f64 b)] w (EncPost B bb ((if s = 0 then [] else [45]) ++ (wholeD N ++ [46, 53])) w) := by
  have HEF := Lib.hid (encodeFloat_any w B bb b E N k mant s h.bld h.enc h.le h.ne h.base hN hk1 hk hm hW)
  obtain ⟨S, hS⟩ : ∃ S, S = (if s = 0 then [] else [45]) ++ (wholeD N ++ [46, 53]) := ⟨_, rfl⟩
  rw [← hS] at HEF ⊢
  clear hS h hW hm
  go_enter Tryz.func49, Tryz.ntmps49
  go_wp2_with fail
  refine HEF.out.mono ?_
  rintro e w4 ⟨rfl, h4⟩
  have HF := Lib.hid h4
  clear h4
  go_wp2_with fail
  go_end0
  exact ⟨rfl, HF.out⟩
set_option maxRecDepth 100000 in
set_option maxHeartbeats 2000000 in
theorem encode_int (w : World) (B b E : Nat) (x : Int) (h : Fresh w B b E) (hx0 : -9223372036854775808 < x) (hx1 : x < 9223372036854775808) :
    Calls Tryz.prog 49 #[.pointer (some ⟨E, 0, none⟩), .iface 3 (.int .i64 x)] w (EncPost B b (Lib.itoa x) w) := by
  have e0 := h.enc.cell0
  have hlt := h.enc.lt
  have HAI := Lib.hid (appendInt_any w.drew E b x h.enc hx0 hx1)
  have hS1 := itoa_len x hx0 hx1
  have hS0 : 0 < (Lib.itoa x).length := by
    unfold Lib.itoa
    split
    · simp
    · exact List.length_pos_iff.2 (dec_facts _).2.2.1
  obtain ⟨S, hS⟩ : ∃ S, S = Lib.itoa x := ⟨_, rfl⟩
  rw [← hS] at HAI hS0 hS1 ⊢
  clear hS
  have HFR := Lib.hid h
  clear h
  go_enter Tryz.func49, Tryz.ntmps49
  go_wp2_with fail
  refine wp_region_S (Sf := Till 13 (fun W => W.cell? ⟨E, 0, none⟩ = some (.iface 144 (.pointer (some ⟨b, 0, none⟩)))) (fun _ => True)) (by kernel_rfl) ?_
  have e0d : w.drew.cell? ⟨E, 0, none⟩ = some (.iface 144 (.pointer (some ⟨b, 0, none⟩))) := e0
  clear e0
  refine till_take_R (i := 0) 39 (.pointer (some ⟨E, 0, none⟩)) rfl rfl (by kernel_rfl) (by kernel_rfl) (by kernel_rfl) (by decide) (fun _ _ _ h => h) (Or.inl ⟨by rfl, ?_⟩) ⟨e0d, fun _ => trivial⟩ ?_
  · intro W hW; go_simp
  simp only [Act.put, List.setIfInBounds_toArray, List.set_cons_zero, List.set_cons_succ]
  refine till_take_R (i := 1) 40 (.pointer (some ⟨E, 0, none⟩)) rfl rfl (by kernel_rfl) (by kernel_rfl) (by kernel_rfl) (by decide) (fun _ _ _ h => h) (Or.inl ⟨by rfl, ?_⟩) ⟨e0d, fun _ => trivial⟩ ?_
  · intro W hW; go_simp
  simp only [Act.put, List.setIfInBounds_toArray, List.set_cons_zero, List.set_cons_succ]
  refine till_take_R (i := 2) 41 (.pointer (some ⟨E, 0, none⟩)) rfl rfl (by kernel_rfl) (by kernel_rfl) (by kernel_rfl) (by decide) (fun _ _ _ h => h) (Or.inl ⟨by rfl, ?_⟩) ⟨e0d, fun _ => trivial⟩ ?_
  · intro W hW; go_simp
  simp only [Act.put, List.setIfInBounds_toArray, List.set_cons_zero, List.set_cons_succ]
  refine till_take_R (i := 3) 42 (.iface 144 (.pointer (some ⟨b, 0, none⟩))) rfl rfl (by kernel_rfl) (by kernel_rfl) (by kernel_rfl) (by decide) (fun _ _ _ h => h) (Or.inl ⟨by rfl, ?_⟩) ⟨e0d, fun _ => trivial⟩ ?_
  · intro W hW; go_simp
  simp only [Act.put, List.setIfInBounds_toArray, List.set_cons_zero, List.set_cons_succ]
  refine till_take_R (i := 4) 43 (.pointer (some ⟨E, 0, none⟩)) rfl rfl (by kernel_rfl) (by kernel_rfl) (by kernel_rfl) (by decide) (fun _ _ _ h => h) (Or.inl ⟨by rfl, ?_⟩) ⟨e0d, fun _ => trivial⟩ ?_
  · intro W hW; go_simp
  simp only [Act.put, List.setIfInBounds_toArray, List.set_cons_zero, List.set_cons_succ]
  refine till_take_R (i := 5) 44 (.pointer (some ⟨E, 0, none⟩)) rfl rfl (by kernel_rfl) (by kernel_rfl) (by kernel_rfl) (by decide) (fun _ _ _ h => h) (Or.inl ⟨by rfl, ?_⟩) ⟨e0d, fun _ => trivial⟩ ?_
  · intro W hW; go_simp
  simp only [Act.put, List.setIfInBounds_toArray, List.set_cons_zero, List.set_cons_succ]
  refine till_take_R (i := 6) 45 (.pointer (some ⟨E, 1, none⟩)) rfl rfl (by kernel_rfl) (by kernel_rfl) (by kernel_rfl) (by decide) (fun _ _ _ h => h) (Or.inl ⟨by rfl, ?_⟩) ⟨e0d, fun _ => trivial⟩ ?_
  · intro W hW; go_simp
  simp only [Act.put, List.setIfInBounds_toArray, List.set_cons_zero, List.set_cons_succ]
  refine till_take_R (i := 7) 46 (.slice (some ⟨E, 1, none⟩) 0 64) rfl rfl (by kernel_rfl) (by kernel_rfl) (by kernel_rfl) (by decide) (fun _ _ _ h => h) (Or.inl ⟨by rfl, ?_⟩) ⟨e0d, fun _ => trivial⟩ ?_
  · intro W hW; go_simp
  simp only [Act.put, List.setIfInBounds_toArray, List.set_cons_zero, List.set_cons_succ]
  refine till_take_R (i := 8) 47 (.int .i64 x) rfl rfl (by kernel_rfl) (by kernel_rfl) (by kernel_rfl) (by decide) (fun _ _ _ h => h) (Or.inl ⟨by rfl, ?_⟩) ⟨e0d, fun _ => trivial⟩ ?_
  · intro W hW; go_simp
  simp only [Act.put, List.setIfInBounds_toArray, List.set_cons_zero, List.set_cons_succ]
  refine till_take_R (i := 10) 49 (.iface 144 (.pointer (some ⟨b, 0, none⟩))) rfl rfl (by kernel_rfl) (by kernel_rfl) (by kernel_rfl) (by decide) (fun _ _ _ h => h) (Or.inl ⟨by rfl, ?_⟩) ⟨e0d, fun _ => trivial⟩ ?_
  · intro W hW; go_simp
  simp only [Act.put, List.setIfInBounds_toArray, List.set_cons_zero, List.set_cons_succ]
  refine till_take_R (i := 11) 50 (.iface 144 (.pointer (some ⟨b, 0, none⟩))) rfl rfl (by kernel_rfl) (by kernel_rfl) (by kernel_rfl) (by decide) (fun _ _ _ h => h) (Or.inl ⟨by rfl, ?_⟩) ⟨e0d, fun _ => trivial⟩ ?_
  · intro W hW; go_simp
  simp only [Act.put, List.setIfInBounds_toArray, List.set_cons_zero, List.set_cons_succ]
  refine anyS_ready (rs := [9]) (by kernel_rfl) (by simp) ?_
  refine AllS.cons rfl (fun K hK => ?_) AllS.nil
  go_simp
  refine HAI.out.mono ?_
  rintro e w3 ⟨rfl, hg3, r, hE3⟩
  have hb3 := isBuilder_kept (w := w.drew) HFR.out.bld hg3 HFR.out.ne HFR.out.enc
  have e3 : w3.cell? ⟨E, 0, none⟩ = some (.iface 144 (.pointer (some ⟨b, 0, none⟩))) := by rw [cell_of_row w3 E 0 _ _ _ hE3]; rfl
  have hlt3 : E < w3.heap.size := (Array.getElem?_eq_some_iff.1 hE3).1
  have hB3 : B ≤ w3.heap.size := Nat.le_trans HFR.out.le hg3.size
  have HWR := Lib.hid (write_any w3 B b E S.length 64 [] (Lib.byteCells S) hb3 hB3 HFR.out.ne hlt3 (by simp [Lib.byteCells]) hS0 _ hE3 (into_cells hE3) (byteCells_one S) (by simp; omega))
  have hBel := (Below.refl B w).drew.grown hg3 HFR.out.le (fun k hk => by injection hk; have := HFR.out.base; omega)
  have HBE := Lib.hid hBel
  refine hK.out _ _ ⟨e3, fun _ => trivial⟩ ?_
  clear hK K hb3 hBel hg3
  refine anyS_ready (rs := [12]) (by kernel_rfl) (by simp) ?_
  refine AllS.cons rfl (fun K hK => ?_) AllS.nil
  go_simp
  refine HWR.out.mono ?_
  rintro e w4 ⟨rfl, hat, hbel, hk4⟩
  have e4 : w4.cell? ⟨E, 0, none⟩ = some (.iface 144 (.pointer (some ⟨b, 0, none⟩))) := (World.cell?_of_block hk4).trans e3
  have HF := Lib.hid (And.intro hat (HBE.out.trans hbel))
  refine hK.out _ _ ⟨e4, fun _ => trivial⟩ ?_
  clear hK K hat hbel hk4 e4 e3 hE3
  refine anyS_done (by kernel_rfl) ?_ _
  go_wp2_with fail
  go_end0
  exact ⟨rfl, Or.inr HF.out.1, HF.out.2⟩
end Go.Proofs.YtpigccnlembfdaaGreatDoor
