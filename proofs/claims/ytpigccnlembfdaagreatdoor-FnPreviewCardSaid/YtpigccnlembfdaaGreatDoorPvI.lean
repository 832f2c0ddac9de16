/- The limited writer, and the encoder over it at scalars. Conditions: as each theorem states. -/
import Derived.Test.YtpigccnlembfdaaGreatDoorPvE
import Derived.Test.YtpigccnlembfdaaGreatDoorPvC
import Derived.Lib.BufferWrite

/- The walks of limitedWriter's methods while there is room. Conditions: as each theorem states. -/
namespace Go.Proofs.YtpigccnlembfdaaGreatDoor
open Go.RowKit

/-- A limited writer that holds these bytes: its box and its row of 32 bytes. -/
structure LimAt (w : World) (b g : Nat) (bs : List UInt8) : Prop where
  box : w.heap[b]? = some (.cells #[.slice (some ⟨g, 0, none⟩) 32 32, .int .i64 bs.length] 88 (0, 0))
  row : w.heap[g]? = some (.cells (Lib.byteCells bs ++ List.replicate (32 - bs.length) (Value.int .u8 0)).toArray 5 (0, 0))
  ne : g ≠ b
  len : bs.length ≤ 32
variable {w : World} {b g : Nat} {bs : List UInt8}
theorem LimAt.cell0 (h : LimAt w b g bs) : w.cell? ⟨b, 0, none⟩ = some (.slice (some ⟨g, 0, none⟩) 32 32) := by rw [cell_of_row w b 0 _ _ _ h.box]; rfl
theorem LimAt.cell1 (h : LimAt w b g bs) : w.cell? ⟨b, 1, none⟩ = some (.int .i64 bs.length) := by rw [cell_of_row w b 1 _ _ _ h.box]; rfl
theorem LimAt.frozen (h : LimAt w b g bs) (i : Nat) : w.frozen? ⟨b, i, none⟩ = false := by simp [World.frozen?, h.box]
theorem LimAt.rfrozen (h : LimAt w b g bs) (i : Nat) : w.frozen? ⟨g, i, none⟩ = false := by simp [World.frozen?, h.row]
theorem LimAt.lt (h : LimAt w b g bs) : b < w.heap.size := (Array.getElem?_eq_some_iff.1 h.box).1
theorem LimAt.rlt (h : LimAt w b g bs) : g < w.heap.size := (Array.getElem?_eq_some_iff.1 h.row).1
theorem LimAt.drew (h : LimAt w b g bs) : LimAt w.drew b g bs := ⟨h.box, h.row, h.ne, h.len⟩
theorem LimAt.drewN (h : LimAt w b g bs) (n : Nat) : LimAt (w.drewN n) b g bs := ⟨h.box, h.row, h.ne, h.len⟩
theorem LimAt.keep {w' : World} (h : LimAt w b g bs) {row : Option Nat} (hg : w.grownBy w' row) (h1 : row ≠ some b) (h2 : row ≠ some g) : LimAt w' b g bs :=
  ⟨(hg.block b h.lt (Ne.symm h1)).trans h.box, (hg.block g h.rlt (Ne.symm h2)).trans h.row, h.ne, h.len⟩
/-- The cell behind the last byte. -/
theorem LimAt.next (h : LimAt w b g bs) (hl : bs.length < 32) : w.cell? ⟨g, bs.length, none⟩ = some (.int .u8 0) := by
  rw [cell_of_row w g bs.length _ _ _ h.row]
  have hbl : (Lib.byteCells bs).length = bs.length := by simp [Lib.byteCells]
  rw [List.getElem?_toArray, List.getElem?_append_right (by omega), hbl, Nat.sub_self, List.getElem?_replicate, if_pos (by omega)]
theorem LimAt.put (h : LimAt w b g bs) (hl : bs.length < 32) (c : UInt8) : LimAt ((w.setCell ⟨g, bs.length, none⟩ (.int .u8 c.toNat)).setCell ⟨b, 1, none⟩ (.int .i64 ((bs.length : Int) + 1))) b g (bs ++ [c]) := by
  have hne := h.ne
  have hbl : (Lib.byteCells bs).length = bs.length := by simp [Lib.byteCells]
  refine ⟨?_, ?_, h.ne, by simp; omega⟩
  · have h1 : (w.setCell ⟨g, bs.length, none⟩ (.int .u8 c.toNat)).heap[b]? = some (.cells #[.slice (some ⟨g, 0, none⟩) 32 32, .int .i64 bs.length] 88 (0, 0)) :=
      ((grown_cell w g bs.length _).block b h.lt (fun e => hne (Option.some.inj e).symm)).trans h.box
    simp [World.setCell, Array.getElem?_modify] at h1 ⊢
    rw [h1]
    simp
  · have h1 : (w.setCell ⟨g, bs.length, none⟩ (.int .u8 c.toNat)).heap[g]? = some (.cells (Lib.byteCells (bs ++ [c]) ++ List.replicate (32 - (bs.length + 1)) (Value.int .u8 0)).toArray 5 (0, 0)) := by
      simp only [World.setCell, Array.getElem?_modify, if_true, h.row, Option.map_some]
      congr 2
      apply Array.ext'
      simp only [Option.isSome_none, Bool.false_eq_true, if_false, Array.toList_setIfInBounds]
      rw [List.set_append, if_neg (by omega), hbl, Nat.sub_self, show 32 - bs.length = (32 - (bs.length + 1)) + 1 by omega, List.replicate_succ]
      simp [Lib.byteCells]
    rw [(grown_cell _ b 1 _).block g (by simp; exact h.rlt) (fun e => hne (Option.some.inj e)), h1]
    simp
/-- What a write leaves beside its value. -/
def LimPost (B b g : Nat) (bs : List UInt8) (w w' : World) : Prop := LimAt w' b g bs ∧ Below B w w' ∧ ∀ k, k < w.heap.size → k ≠ b → k ≠ g → w'.heap[k]? = w.heap[k]?
set_option maxRecDepth 100000 in
set_option maxHeartbeats 4000000 in
theorem limByte_any (w : World) (B b g : Nat) (bs : List UInt8) (c : UInt8) (h : LimAt w b g bs) (hl : bs.length < 31) (hb : B ≤ b) (hg : B ≤ g) (hBw : B ≤ w.heap.size) :
    Calls Tryz.prog 191 #[.pointer (some ⟨b, 0, none⟩), .int .u8 c.toNat] w (fun e w' => e = .returned .nilIface ∧ LimPost B b g (bs ++ [c]) w w') := by
  have c0 := h.cell0
  have c1 := h.cell1
  have hnx := h.next (by omega)
  have hrf := h.rfrozen bs.length
  have hlt := h.lt
  have hrl := h.rlt
  have hne := h.ne
  have HLIM := Lib.hid h
  obtain ⟨n, hn⟩ : ∃ n, n = bs.length := ⟨_, rfl⟩
  obtain ⟨cb, hcb⟩ : ∃ cb, cb = c.toNat := ⟨_, rfl⟩
  rw [← hn] at c1 hnx hrf hl
  rw [← hcb]
  have HN := Lib.hid (And.intro hn hcb)
  have HBW := Lib.hid hBw
  clear h hn hcb
  go_enter Tryz.func191, Tryz.ntmps191
  go_wp2_with fail
  refine wp_region_S (Sf := Till 11 (fun W => W.cell? ⟨b, 0, none⟩ = some (.slice (some ⟨g, 0, none⟩) 32 32) ∧ W.cell? ⟨b, 1, none⟩ = some (.int .i64 n)) (fun _ => True)) (by kernel_rfl) ?_
  have HD := Lib.hid HLIM.out.drew
  have HBD := Lib.hid (show Below w.heap.size w w.drew from (Below.refl _ _).drew)
  have HKD : Hid (∀ k : Nat, w.drew.heap[k]? = w.heap[k]?) := Lib.hid (fun _ => rfl)
  have HSD : Hid (w.drew.heap.size = w.heap.size) := Lib.hid rfl
  have c0d : w.drew.cell? ⟨b, 0, none⟩ = some (.slice (some ⟨g, 0, none⟩) 32 32) := c0
  have c1d : w.drew.cell? ⟨b, 1, none⟩ = some (.int .i64 n) := c1
  have hnxd : w.drew.cell? ⟨g, n, none⟩ = some (.int .u8 0) := hnx
  have hrfd : w.drew.frozen? ⟨g, n, none⟩ = false := hrf
  have hltd : b < w.drew.heap.size := hlt
  have hrld : g < w.drew.heap.size := hrl
  have hnz : ¬ (32 : Int) ≤ (n : Int) := by omega
  clear c0 c1 hnx hrf hlt hrl
  generalize w.drew = wd at *
  refine till_take_R (i := 0) 5 (.pointer (some ⟨b, 0, none⟩)) rfl rfl (by kernel_rfl) (by kernel_rfl) (by kernel_rfl) (by decide) (fun _ _ _ h => h) (Or.inl ⟨by rfl, ?_⟩) ⟨⟨c0d, c1d⟩, fun _ => trivial⟩ ?_
  · intro W hW; obtain ⟨h0, h1⟩ := hW; go_simp
  simp only [Act.put, List.setIfInBounds_toArray, List.set_cons_zero, List.set_cons_succ]
  refine till_take_R (i := 1) 6 (.pointer (some ⟨b, 0, none⟩)) rfl rfl (by kernel_rfl) (by kernel_rfl) (by kernel_rfl) (by decide) (fun _ _ _ h => h) (Or.inl ⟨by rfl, ?_⟩) ⟨⟨c0d, c1d⟩, fun _ => trivial⟩ ?_
  · intro W hW; obtain ⟨h0, h1⟩ := hW; go_simp
  simp only [Act.put, List.setIfInBounds_toArray, List.set_cons_zero, List.set_cons_succ]
  refine till_take_R (i := 2) 7 (.pointer (some ⟨b, 0, none⟩)) rfl rfl (by kernel_rfl) (by kernel_rfl) (by kernel_rfl) (by decide) (fun _ _ _ h => h) (Or.inl ⟨by rfl, ?_⟩) ⟨⟨c0d, c1d⟩, fun _ => trivial⟩ ?_
  · intro W hW; obtain ⟨h0, h1⟩ := hW; go_simp
  simp only [Act.put, List.setIfInBounds_toArray, List.set_cons_zero, List.set_cons_succ]
  refine till_take_R (i := 3) 8 (.slice (some ⟨g, 0, none⟩) 32 32) rfl rfl (by kernel_rfl) (by kernel_rfl) (by kernel_rfl) (by decide) (fun _ _ _ h => h) (Or.inl ⟨by rfl, ?_⟩) ⟨⟨c0d, c1d⟩, fun _ => trivial⟩ ?_
  · intro W hW; obtain ⟨h0, h1⟩ := hW; go_simp
  simp only [Act.put, List.setIfInBounds_toArray, List.set_cons_zero, List.set_cons_succ]
  refine till_take_R (i := 4) 9 (.pointer (some ⟨b, 0, none⟩)) rfl rfl (by kernel_rfl) (by kernel_rfl) (by kernel_rfl) (by decide) (fun _ _ _ h => h) (Or.inl ⟨by rfl, ?_⟩) ⟨⟨c0d, c1d⟩, fun _ => trivial⟩ ?_
  · intro W hW; obtain ⟨h0, h1⟩ := hW; go_simp
  simp only [Act.put, List.setIfInBounds_toArray, List.set_cons_zero, List.set_cons_succ]
  refine till_take_R (i := 5) 10 (.pointer (some ⟨b, 0, none⟩)) rfl rfl (by kernel_rfl) (by kernel_rfl) (by kernel_rfl) (by decide) (fun _ _ _ h => h) (Or.inl ⟨by rfl, ?_⟩) ⟨⟨c0d, c1d⟩, fun _ => trivial⟩ ?_
  · intro W hW; obtain ⟨h0, h1⟩ := hW; go_simp
  simp only [Act.put, List.setIfInBounds_toArray, List.set_cons_zero, List.set_cons_succ]
  refine till_take_R (i := 6) 11 (.pointer (some ⟨b, 1, none⟩)) rfl rfl (by kernel_rfl) (by kernel_rfl) (by kernel_rfl) (by decide) (fun _ _ _ h => h) (Or.inl ⟨by rfl, ?_⟩) ⟨⟨c0d, c1d⟩, fun _ => trivial⟩ ?_
  · intro W hW; obtain ⟨h0, h1⟩ := hW; go_simp
  simp only [Act.put, List.setIfInBounds_toArray, List.set_cons_zero, List.set_cons_succ]
  refine till_take_R (i := 7) 12 (.int .i64 n) rfl rfl (by kernel_rfl) (by kernel_rfl) (by kernel_rfl) (by decide) (fun _ _ _ h => h) (Or.inl ⟨by rfl, ?_⟩) ⟨⟨c0d, c1d⟩, fun _ => trivial⟩ ?_
  · intro W hW; obtain ⟨h0, h1⟩ := hW; go_simp
  simp only [Act.put, List.setIfInBounds_toArray, List.set_cons_zero, List.set_cons_succ]
  refine till_take_R (i := 8) 13 (.int .u8 cb) rfl rfl (by kernel_rfl) (by kernel_rfl) (by kernel_rfl) (by decide) (fun _ _ _ h => h) (Or.inl ⟨by rfl, ?_⟩) ⟨⟨c0d, c1d⟩, fun _ => trivial⟩ ?_
  · intro W hW; obtain ⟨h0, h1⟩ := hW; go_simp; try (intros; omega)
  simp only [Act.put, List.setIfInBounds_toArray, List.set_cons_zero, List.set_cons_succ]
  refine till_take_R (i := 9) 14 (.pointer (some ⟨g, n, none⟩)) rfl rfl (by kernel_rfl) (by kernel_rfl) (by kernel_rfl) (by decide) (fun _ _ _ h => h) (Or.inl ⟨by rfl, ?_⟩) ⟨⟨c0d, c1d⟩, fun _ => trivial⟩ ?_
  · intro W hW; obtain ⟨h0, h1⟩ := hW; go_simp
  simp only [Act.put, List.setIfInBounds_toArray, List.set_cons_zero, List.set_cons_succ]
  refine anyS_ready (rs := [10]) (by kernel_rfl) (by simp) ?_
  refine AllS.cons rfl (fun K hK => ?_) AllS.nil
  go_simp
  have e0 : (wd.setCell ⟨g, n, none⟩ (.int .u8 cb)).cell? ⟨b, 0, none⟩ = some (.slice (some ⟨g, 0, none⟩) 32 32) := (World.cell?_of_block ((grown_cell wd g n _).block b hltd (fun e => hne (Option.some.inj e).symm))).trans c0d
  have e1 : (wd.setCell ⟨g, n, none⟩ (.int .u8 cb)).cell? ⟨b, 1, none⟩ = some (.int .i64 n) := (World.cell?_of_block ((grown_cell wd g n _).block b hltd (fun e => hne (Option.some.inj e).symm))).trans c1d
  have ef : (wd.setCell ⟨g, n, none⟩ (.int .u8 cb)).frozen? ⟨b, 1, none⟩ = false := by
    have := (grown_cell wd g n (.int .u8 cb)).block b hltd (fun e => hne (Option.some.inj e).symm)
    simp [World.frozen?, this, HD.out.box]
  have el : b < (wd.setCell ⟨g, n, none⟩ (.int .u8 cb)).heap.size := by simp; exact hltd
  refine hK.out _ _ ⟨⟨e0, e1⟩, fun _ => trivial⟩ ?_
  clear hK K
  have HPUT := Lib.hid (HD.out.put (by have := HN.out.1; omega) c)
  rw [← HN.out.1, ← HN.out.2] at HPUT
  have HGR := Lib.hid (grown_cell wd g n (.int .u8 cb))
  refine anyS_done (by kernel_rfl) ?_ _
  clear c0d c1d hnxd hrfd
  generalize wd.setCell ⟨g, n, none⟩ (.int .u8 cb) = we at *
  go_wp2_with fail
  have f0 := HPUT.out.cell0
  have f1 : (we.setCell ⟨b, 1, none⟩ (.int .i64 ((n : Int) + 1))).cell? ⟨b, 1, none⟩ = some (.int .i64 ((n : Int) + 1)) := by
    rw [HPUT.out.cell1, List.length_append, ← HN.out.1]; rfl
  have fl := HPUT.out.lt
  have hn32 : ((n : Int) + 1 == 32) = false := by rw [beq_eq_false_iff_ne]; omega
  have HFIN : Hid (∀ nq, Below B w ((we.setCell ⟨b, 1, none⟩ (.int .i64 ((n : Int) + 1))).drewN nq) ∧ ∀ k, k < w.heap.size → k ≠ b → k ≠ g → ((we.setCell ⟨b, 1, none⟩ (.int .i64 ((n : Int) + 1))).drewN nq).heap[k]? = w.heap[k]?) := Lib.hid fun nq => by
    have g1 := HGR.out
    have g2 := grown_cell we b 1 (.int .i64 ((n : Int) + 1))
    have hsz := HSD.out
    have hx : ∀ k, k < w.heap.size → k ≠ b → k ≠ g → (we.setCell ⟨b, 1, none⟩ (.int .i64 ((n : Int) + 1))).heap[k]? = w.heap[k]? := fun k hk h1 h2 => by
      rw [g2.block k (by have := g1.size; omega) (fun e => h1 (Option.some.inj e)), g1.block k (by omega) (fun e => h2 (Option.some.inj e)), HKD.out k]
    have hB : w.heap.size ≤ (we.setCell ⟨b, 1, none⟩ (.int .i64 ((n : Int) + 1))).heap.size := by have := g1.size; have := g2.size; omega
    exact ⟨⟨g2.os.trans (g1.os.trans HBD.out.os), g2.tape.trans (g1.tape.trans HBD.out.tape), g2.output.trans (g1.output.trans HBD.out.output), hB, fun k hk => hx k (by have := HBW.out; omega) (by omega) (by omega)⟩, hx⟩
  clear e0 e1 ef el
  go_quiet (fail)
  go_wp2_with fail
  go_ret
  exact ⟨rfl, HPUT.out.drewN _, HFIN.out _⟩
theorem lim_put {we : World} {b g : Nat} {bs l : List UInt8} (hrow : we.heap[g]? = some (.cells (Lib.byteCells (bs ++ l) ++ List.replicate (32 - (bs ++ l).length) (Value.int .u8 0)).toArray 5 (0, 0))) (hbx : we.heap[b]? = some (.cells #[.slice (some ⟨g, 0, none⟩) 32 32, .int .i64 bs.length] 88 (0, 0))) (hne : g ≠ b) (hl : bs.length + l.length ≤ 32) {x : Int} (hx : x = (bs.length : Int) + l.length) :
    LimAt (we.setCell ⟨b, 1, none⟩ (.int .i64 x)) b g (bs ++ l) := by
  subst hx
  refine ⟨?_, ?_, hne, by simp; omega⟩
  · simp [World.setCell, Array.getElem?_modify, hbx]
  · exact ((grown_cell we b 1 _).block g (Array.getElem?_eq_some_iff.1 hrow).1 (fun e => hne (Option.some.inj e))).trans hrow
theorem wp_copy_ran {P : Program} (w : World) {o : Oper} {a : Act} {K : Act → World → Prop} {Q : Exit → Act → World → Prop} (x y : Operand) (t t' : TypeId) (ho : o.op = .call { callee := .builtin .copy, args := #[x, y], argTypes := #[t, t'] })
    (v u v' : Value) (w' : World) (hx : a.eval x = v) (hy : a.eval y = u) (hr : (Builtin.copy_ #[t, t'] o.type #[v, u]).run P w = .ok v' w') (h : K (a.put o.dst v') w') : o.wp P a w K Q := by
  unfold Oper.wp execOp
  simp only [ho, resolve, invoke, builtin, Sem.run_bind, Sem.run_pure, Result.andThen_ok, List.map_toArray, List.map_cons, List.map_nil, hx, hy, hr]
  exact h
theorem lim_rows (bs l : List UInt8) (hl : bs.length + l.length ≤ 32) : ((Lib.byteCells bs ++ List.replicate (32 - bs.length) (Value.int .u8 0)).toArray.toList.take bs.length ++ Lib.byteCells l ++ (Lib.byteCells bs ++ List.replicate (32 - bs.length) (Value.int .u8 0)).toArray.toList.drop (bs.length + l.length)) = Lib.byteCells (bs ++ l) ++ List.replicate (32 - (bs ++ l).length) (Value.int .u8 0) := by
  have hbl : (Lib.byteCells bs).length = bs.length := by simp [Lib.byteCells]
  have e : Lib.byteCells (bs ++ l) = Lib.byteCells bs ++ Lib.byteCells l := by simp [Lib.byteCells]
  rw [e]
  simp only [List.length_append]
  rw [List.take_append_of_le_length (by omega), List.take_of_length_le (by omega), List.drop_append, List.drop_of_length_le (by omega), List.nil_append, hbl, List.drop_replicate]
  congr 2
  omega
set_option maxRecDepth 100000 in
set_option maxHeartbeats 4000000 in
theorem limStr_any (w : World) (B b g : Nat) (bs l : List UInt8)  (h : LimAt w b g bs) (hl : bs.length + l.length < 32) (hb : B ≤ b) (hg : B ≤ g) (hBw : B ≤ w.heap.size)  :
    Calls Tryz.prog 192 #[.pointer (some ⟨b, 0, none⟩), .string (strL l)] w (fun e w' => e = .returned (.tuple #[.int .i64 l.length, .nilIface]) ∧ LimPost B b g (bs ++ l) w w') := by
  have c0 := h.cell0
  have c1 := h.cell1
  have hlt := h.lt
  have hne := h.ne
  have HLIM := Lib.hid h
  obtain ⟨n, hn⟩ : ∃ n, n = bs.length := ⟨_, rfl⟩
  obtain ⟨m, hm⟩ : ∃ m, m = l.length := ⟨_, rfl⟩
  rw [← hn] at c1 hl
  rw [← hm] at hl ⊢
  have HN := Lib.hid (And.intro hn hm)
  have HBW := Lib.hid hBw
  clear h hn hm
  go_enter Tryz.func192, Tryz.ntmps192
  go_wp2_with fail
  refine wp_region_S (Sf := Till 12 (fun W => W.cell? ⟨b, 0, none⟩ = some (.slice (some ⟨g, 0, none⟩) 32 32) ∧ W.cell? ⟨b, 1, none⟩ = some (.int .i64 n)) (fun _ => True)) (by kernel_rfl) ?_
  have HD := Lib.hid HLIM.out.drew
  have HBD := Lib.hid (show Below w.heap.size w w.drew from (Below.refl _ _).drew)
  have HKD : Hid (∀ k : Nat, w.drew.heap[k]? = w.heap[k]?) := Lib.hid (fun _ => rfl)
  have HSD : Hid (w.drew.heap.size = w.heap.size) := Lib.hid rfl
  have c0d : w.drew.cell? ⟨b, 0, none⟩ = some (.slice (some ⟨g, 0, none⟩) 32 32) := c0
  have c1d : w.drew.cell? ⟨b, 1, none⟩ = some (.int .i64 n) := c1
  have hltd : b < w.drew.heap.size := hlt
  have hnz : (n : Int) ≤ 32 := by omega
  have hn0 : ¬ (n : Int) < 0 := by omega
  have hsub : (32 : Int) - (n : Int) = ((32 - n : Nat) : Int) := by omega
  have hcp := Lib.run_copy_row_string (P := Tryz.prog) w.drew 72 9 3 5 g n (32 - n) (32 - n) (strL l) _ 5 Tryz.underlying72 (by kernel_rfl) HLIM.out.row (by rw [strL_size]; have := HN.out; omega) (by rw [strL_size]; have := HN.out; simp [Lib.byteCells]; omega)
  rw [strL_size, ← HN.out.2] at hcp
  have HCP := Lib.hid hcp
  clear c0 c1 hlt hcp
  generalize w.drew = wd at *
  refine till_take_R (i := 0) 7 (.pointer (some ⟨b, 0, none⟩)) rfl rfl (by kernel_rfl) (by kernel_rfl) (by kernel_rfl) (by decide) (fun _ _ _ h => h) (Or.inl ⟨by rfl, ?_⟩) ⟨⟨c0d, c1d⟩, fun _ => trivial⟩ ?_
  · intro W hW; obtain ⟨h0, h1⟩ := hW; go_simp
  simp only [Act.put, List.setIfInBounds_toArray, List.set_cons_zero, List.set_cons_succ]
  refine till_take_R (i := 1) 8 (.pointer (some ⟨b, 0, none⟩)) rfl rfl (by kernel_rfl) (by kernel_rfl) (by kernel_rfl) (by decide) (fun _ _ _ h => h) (Or.inl ⟨by rfl, ?_⟩) ⟨⟨c0d, c1d⟩, fun _ => trivial⟩ ?_
  · intro W hW; obtain ⟨h0, h1⟩ := hW; go_simp
  simp only [Act.put, List.setIfInBounds_toArray, List.set_cons_zero, List.set_cons_succ]
  refine till_take_R (i := 2) 9 (.pointer (some ⟨b, 0, none⟩)) rfl rfl (by kernel_rfl) (by kernel_rfl) (by kernel_rfl) (by decide) (fun _ _ _ h => h) (Or.inl ⟨by rfl, ?_⟩) ⟨⟨c0d, c1d⟩, fun _ => trivial⟩ ?_
  · intro W hW; obtain ⟨h0, h1⟩ := hW; go_simp
  simp only [Act.put, List.setIfInBounds_toArray, List.set_cons_zero, List.set_cons_succ]
  refine till_take_R (i := 3) 10 (.slice (some ⟨g, 0, none⟩) 32 32) rfl rfl (by kernel_rfl) (by kernel_rfl) (by kernel_rfl) (by decide) (fun _ _ _ h => h) (Or.inl ⟨by rfl, ?_⟩) ⟨⟨c0d, c1d⟩, fun _ => trivial⟩ ?_
  · intro W hW; obtain ⟨h0, h1⟩ := hW; go_simp
  simp only [Act.put, List.setIfInBounds_toArray, List.set_cons_zero, List.set_cons_succ]
  refine till_take_R (i := 4) 11 (.pointer (some ⟨b, 0, none⟩)) rfl rfl (by kernel_rfl) (by kernel_rfl) (by kernel_rfl) (by decide) (fun _ _ _ h => h) (Or.inl ⟨by rfl, ?_⟩) ⟨⟨c0d, c1d⟩, fun _ => trivial⟩ ?_
  · intro W hW; obtain ⟨h0, h1⟩ := hW; go_simp
  simp only [Act.put, List.setIfInBounds_toArray, List.set_cons_zero, List.set_cons_succ]
  refine till_take_R (i := 5) 12 (.pointer (some ⟨b, 0, none⟩)) rfl rfl (by kernel_rfl) (by kernel_rfl) (by kernel_rfl) (by decide) (fun _ _ _ h => h) (Or.inl ⟨by rfl, ?_⟩) ⟨⟨c0d, c1d⟩, fun _ => trivial⟩ ?_
  · intro W hW; obtain ⟨h0, h1⟩ := hW; go_simp
  simp only [Act.put, List.setIfInBounds_toArray, List.set_cons_zero, List.set_cons_succ]
  refine till_take_R (i := 6) 13 (.pointer (some ⟨b, 1, none⟩)) rfl rfl (by kernel_rfl) (by kernel_rfl) (by kernel_rfl) (by decide) (fun _ _ _ h => h) (Or.inl ⟨by rfl, ?_⟩) ⟨⟨c0d, c1d⟩, fun _ => trivial⟩ ?_
  · intro W hW; obtain ⟨h0, h1⟩ := hW; go_simp
  simp only [Act.put, List.setIfInBounds_toArray, List.set_cons_zero, List.set_cons_succ]
  refine till_take_R (i := 7) 14 (.int .i64 n) rfl rfl (by kernel_rfl) (by kernel_rfl) (by kernel_rfl) (by decide) (fun _ _ _ h => h) (Or.inl ⟨by rfl, ?_⟩) ⟨⟨c0d, c1d⟩, fun _ => trivial⟩ ?_
  · intro W hW; obtain ⟨h0, h1⟩ := hW; go_simp
  simp only [Act.put, List.setIfInBounds_toArray, List.set_cons_zero, List.set_cons_succ]
  refine till_take_R (i := 8) 15 (.slice (some ⟨g, n, none⟩) (32 - n) (32 - n)) rfl rfl (by kernel_rfl) (by kernel_rfl) (by kernel_rfl) (by decide) (fun _ _ _ h => h) (Or.inl ⟨by rfl, ?_⟩) ⟨⟨c0d, c1d⟩, fun _ => trivial⟩ ?_
  · intro W hW; obtain ⟨h0, h1⟩ := hW; go_simp; try (intros; omega)
  simp only [Act.put, List.setIfInBounds_toArray, List.set_cons_zero, List.set_cons_succ]
  refine till_take_R (i := 9) 16 (.string (strL l)) rfl rfl (by kernel_rfl) (by kernel_rfl) (by kernel_rfl) (by decide) (fun _ _ _ h => h) (Or.inl ⟨by rfl, ?_⟩) ⟨⟨c0d, c1d⟩, fun _ => trivial⟩ ?_
  · intro W hW; obtain ⟨h0, h1⟩ := hW; go_simp
  simp only [Act.put, List.setIfInBounds_toArray, List.set_cons_zero, List.set_cons_succ]
  refine anyS_ready (rs := [10]) (by kernel_rfl) (by simp) ?_
  refine AllS.cons rfl (fun K hK => ?_) AllS.nil
  rw [if_pos (by rfl)]
  refine wp_copy_ran _ _ _ 72 9 rfl _ _ _ _ rfl rfl HCP.out ?_
  have HGR : Hid (wd.grownBy (wd.setRow g (List.take n (Lib.byteCells bs ++ List.replicate (32 - bs.length) (Value.int .u8 0)).toArray.toList ++ Lib.byteCells (strL l).data.toList ++ List.drop (n + m) (Lib.byteCells bs ++ List.replicate (32 - bs.length) (Value.int .u8 0)).toArray.toList).toArray) (some g)) := Lib.hid ⟨rfl, rfl, rfl, by simp, fun k _ hk => setRow_other _ _ _ _ (fun e => hk (by rw [e]))⟩
  have e0 : (wd.setRow g (List.take n (Lib.byteCells bs ++ List.replicate (32 - bs.length) (Value.int .u8 0)).toArray.toList ++ Lib.byteCells (strL l).data.toList ++ List.drop (n + m) (Lib.byteCells bs ++ List.replicate (32 - bs.length) (Value.int .u8 0)).toArray.toList).toArray).cell? ⟨b, 0, none⟩ = some (.slice (some ⟨g, 0, none⟩) 32 32) := (World.cell?_of_block (HGR.out.block b hltd (fun e => hne (Option.some.inj e).symm))).trans c0d
  have e1 : (wd.setRow g (List.take n (Lib.byteCells bs ++ List.replicate (32 - bs.length) (Value.int .u8 0)).toArray.toList ++ Lib.byteCells (strL l).data.toList ++ List.drop (n + m) (Lib.byteCells bs ++ List.replicate (32 - bs.length) (Value.int .u8 0)).toArray.toList).toArray).cell? ⟨b, 1, none⟩ = some (.int .i64 n) := (World.cell?_of_block (HGR.out.block b hltd (fun e => hne (Option.some.inj e).symm))).trans c1d
  have hbx : (wd.setRow g (List.take n (Lib.byteCells bs ++ List.replicate (32 - bs.length) (Value.int .u8 0)).toArray.toList ++ Lib.byteCells (strL l).data.toList ++ List.drop (n + m) (Lib.byteCells bs ++ List.replicate (32 - bs.length) (Value.int .u8 0)).toArray.toList).toArray).heap[b]? = some (.cells #[.slice (some ⟨g, 0, none⟩) 32 32, .int .i64 bs.length] 88 (0, 0)) := (HGR.out.block b hltd (fun e => hne (Option.some.inj e).symm)).trans HD.out.box
  have HREQ : (List.take n (Lib.byteCells bs ++ List.replicate (32 - bs.length) (Value.int .u8 0)).toArray.toList ++ Lib.byteCells (strL l).data.toList ++ List.drop (n + m) (Lib.byteCells bs ++ List.replicate (32 - bs.length) (Value.int .u8 0)).toArray.toList) = Lib.byteCells (bs ++ l) ++ List.replicate (32 - (bs ++ l).length) (Value.int .u8 0) := by
    have := HN.out
    have h1 := lim_rows bs l (by omega)
    rw [this.1, strL_list, this.2]
    exact h1
  have hrow : (wd.setRow g (List.take n (Lib.byteCells bs ++ List.replicate (32 - bs.length) (Value.int .u8 0)).toArray.toList ++ Lib.byteCells (strL l).data.toList ++ List.drop (n + m) (Lib.byteCells bs ++ List.replicate (32 - bs.length) (Value.int .u8 0)).toArray.toList).toArray).heap[g]? = some (.cells (Lib.byteCells (bs ++ l) ++ List.replicate (32 - (bs ++ l).length) (Value.int .u8 0)).toArray 5 (0, 0)) := by
    rw [← HREQ]
    exact setRow_heap wd g _ (List.take n (Lib.byteCells bs ++ List.replicate (32 - bs.length) (Value.int .u8 0)).toArray.toList ++ Lib.byteCells (strL l).data.toList ++ List.drop (n + m) (Lib.byteCells bs ++ List.replicate (32 - bs.length) (Value.int .u8 0)).toArray.toList).toArray _ _ HD.out.row
  refine hK.out _ _ ⟨⟨e0, e1⟩, fun _ => trivial⟩ ?_
  clear hK K HREQ
  generalize wd.setRow g (List.take n (Lib.byteCells bs ++ List.replicate (32 - bs.length) (Value.int .u8 0)).toArray.toList ++ Lib.byteCells (strL l).data.toList ++ List.drop (n + m) (Lib.byteCells bs ++ List.replicate (32 - bs.length) (Value.int .u8 0)).toArray.toList).toArray = we at *
  simp only [Act.put]
  refine anyS_ready (rs := [11]) (by kernel_rfl) (by simp) ?_
  refine AllS.cons rfl (fun K hK => ?_) AllS.nil
  go_simp
  refine hK.out _ _ ⟨⟨e0, e1⟩, fun _ => trivial⟩ ?_
  clear hK K
  refine anyS_done (by kernel_rfl) ?_ _
  have HX := Lib.hid (And.intro hrow hbx)
  have el : b < we.heap.size := (Array.getElem?_eq_some_iff.1 hbx).1
  have ef : we.frozen? ⟨b, 1, none⟩ = false := by simp [World.frozen?, hbx]
  clear hrow hbx c0d c1d
  go_wp2_with fail
  have HLA := Lib.hid (lim_put (l := l) HX.out.1 HX.out.2 hne (by have := HN.out; omega) (x := (n : Int) + (m : Int)) (by have := HN.out; omega))
  have f0 := HLA.out.cell0
  have f1 : (we.setCell ⟨b, 1, none⟩ (.int .i64 ((n : Int) + (m : Int)))).cell? ⟨b, 1, none⟩ = some (.int .i64 ((n : Int) + (m : Int))) := by
    rw [HLA.out.cell1, List.length_append, ← HN.out.1, ← HN.out.2]; rfl
  have fl := HLA.out.lt
  have hn32 : ((n : Int) + (m : Int) == 32) = false := by rw [beq_eq_false_iff_ne]; omega
  have HFIN : Hid (∀ nq, Below B w ((we.setCell ⟨b, 1, none⟩ (.int .i64 ((n : Int) + (m : Int)))).drewN nq) ∧ ∀ k, k < w.heap.size → k ≠ b → k ≠ g → ((we.setCell ⟨b, 1, none⟩ (.int .i64 ((n : Int) + (m : Int)))).drewN nq).heap[k]? = w.heap[k]?) := Lib.hid fun nq => by
    have g1 := HGR.out
    have g2 := grown_cell we b 1 (.int .i64 ((n : Int) + (m : Int)))
    have hsz := HSD.out
    have hx : ∀ k, k < w.heap.size → k ≠ b → k ≠ g → (we.setCell ⟨b, 1, none⟩ (.int .i64 ((n : Int) + (m : Int)))).heap[k]? = w.heap[k]? := fun k hk h1 h2 => by
      rw [g2.block k (by have := g1.size; omega) (fun e => h1 (Option.some.inj e)), g1.block k (by omega) (fun e => h2 (Option.some.inj e)), HKD.out k]
    have hB : w.heap.size ≤ (we.setCell ⟨b, 1, none⟩ (.int .i64 ((n : Int) + (m : Int)))).heap.size := by have := g1.size; have := g2.size; omega
    exact ⟨⟨g2.os.trans (g1.os.trans HBD.out.os), g2.tape.trans (g1.tape.trans HBD.out.tape), g2.output.trans (g1.output.trans HBD.out.output), hB, fun k hk => hx k (by have := HBW.out; omega) (by omega) (by omega)⟩, hx⟩
  clear e0 e1 ef el
  go_quiet (fail)
  go_wp2_with fail
  go_ret2
  exact ⟨rfl, HLA.out.drewN _, HFIN.out _⟩
set_option maxRecDepth 100000 in
set_option maxHeartbeats 4000000 in
theorem limWrite_any (w : World) (B b g : Nat) (bs l : List UInt8) (E c : Nat) (h : LimAt w b g bs) (hl : bs.length + l.length < 32) (hb : B ≤ b) (hg : B ≤ g) (hBw : B ≤ w.heap.size) (hsrc : ∀ (j : Nat) (u : Value), (Lib.byteCells l)[j]? = some u → w.cell? ((⟨E, 1, none⟩ : Addr).add j) = some u) :
    Calls Tryz.prog 190 #[.pointer (some ⟨b, 0, none⟩), .slice (some ⟨E, 1, none⟩) l.length c] w (fun e w' => e = .returned (.tuple #[.int .i64 l.length, .nilIface]) ∧ LimPost B b g (bs ++ l) w w') := by
  have c0 := h.cell0
  have c1 := h.cell1
  have hlt := h.lt
  have hne := h.ne
  have HLIM := Lib.hid h
  obtain ⟨n, hn⟩ : ∃ n, n = bs.length := ⟨_, rfl⟩
  obtain ⟨m, hm⟩ : ∃ m, m = l.length := ⟨_, rfl⟩
  rw [← hn] at c1 hl
  rw [← hm] at hl ⊢
  have HSRC := Lib.hid hsrc
  clear hsrc
  have HN := Lib.hid (And.intro hn hm)
  have HBW := Lib.hid hBw
  clear h hn hm
  go_enter Tryz.func190, Tryz.ntmps190
  go_wp2_with fail
  refine wp_region_S (Sf := Till 12 (fun W => W.cell? ⟨b, 0, none⟩ = some (.slice (some ⟨g, 0, none⟩) 32 32) ∧ W.cell? ⟨b, 1, none⟩ = some (.int .i64 n)) (fun _ => True)) (by kernel_rfl) ?_
  have HD := Lib.hid HLIM.out.drew
  have HBD := Lib.hid (show Below w.heap.size w w.drew from (Below.refl _ _).drew)
  have HKD : Hid (∀ k : Nat, w.drew.heap[k]? = w.heap[k]?) := Lib.hid (fun _ => rfl)
  have HSD : Hid (w.drew.heap.size = w.heap.size) := Lib.hid rfl
  have c0d : w.drew.cell? ⟨b, 0, none⟩ = some (.slice (some ⟨g, 0, none⟩) 32 32) := c0
  have c1d : w.drew.cell? ⟨b, 1, none⟩ = some (.int .i64 n) := c1
  have hltd : b < w.drew.heap.size := hlt
  have hnz : (n : Int) ≤ 32 := by omega
  have hn0 : ¬ (n : Int) < 0 := by omega
  have hsub : (32 : Int) - (n : Int) = ((32 - n : Nat) : Int) := by omega
  have hbm : (Lib.byteCells l).length = m := by rw [HN.out.2]; simp [Lib.byteCells]
  have hcp := run_copy_row (P := Tryz.prog) w.drew 72 72 3 5 g n (32 - n) (32 - n) ⟨E, 1, none⟩ m c _ 5 (Lib.byteCells l) Tryz.underlying72 (by kernel_rfl) HLIM.out.row (by rw [hbm]; have := Nat.min_eq_left (show m ≤ 32 - n by omega); exact this.symm) HSRC.out (by rw [hbm]; have := HN.out; simp [Lib.byteCells]; omega) (byteCells_one l)
  rw [hbm] at hcp
  clear hbm
  have HCP := Lib.hid hcp
  clear c0 c1 hlt hcp
  generalize w.drew = wd at *
  refine till_take_R (i := 0) 7 (.pointer (some ⟨b, 0, none⟩)) rfl rfl (by kernel_rfl) (by kernel_rfl) (by kernel_rfl) (by decide) (fun _ _ _ h => h) (Or.inl ⟨by rfl, ?_⟩) ⟨⟨c0d, c1d⟩, fun _ => trivial⟩ ?_
  · intro W hW; obtain ⟨h0, h1⟩ := hW; go_simp
  simp only [Act.put, List.setIfInBounds_toArray, List.set_cons_zero, List.set_cons_succ]
  refine till_take_R (i := 1) 8 (.pointer (some ⟨b, 0, none⟩)) rfl rfl (by kernel_rfl) (by kernel_rfl) (by kernel_rfl) (by decide) (fun _ _ _ h => h) (Or.inl ⟨by rfl, ?_⟩) ⟨⟨c0d, c1d⟩, fun _ => trivial⟩ ?_
  · intro W hW; obtain ⟨h0, h1⟩ := hW; go_simp
  simp only [Act.put, List.setIfInBounds_toArray, List.set_cons_zero, List.set_cons_succ]
  refine till_take_R (i := 2) 9 (.pointer (some ⟨b, 0, none⟩)) rfl rfl (by kernel_rfl) (by kernel_rfl) (by kernel_rfl) (by decide) (fun _ _ _ h => h) (Or.inl ⟨by rfl, ?_⟩) ⟨⟨c0d, c1d⟩, fun _ => trivial⟩ ?_
  · intro W hW; obtain ⟨h0, h1⟩ := hW; go_simp
  simp only [Act.put, List.setIfInBounds_toArray, List.set_cons_zero, List.set_cons_succ]
  refine till_take_R (i := 3) 10 (.slice (some ⟨g, 0, none⟩) 32 32) rfl rfl (by kernel_rfl) (by kernel_rfl) (by kernel_rfl) (by decide) (fun _ _ _ h => h) (Or.inl ⟨by rfl, ?_⟩) ⟨⟨c0d, c1d⟩, fun _ => trivial⟩ ?_
  · intro W hW; obtain ⟨h0, h1⟩ := hW; go_simp
  simp only [Act.put, List.setIfInBounds_toArray, List.set_cons_zero, List.set_cons_succ]
  refine till_take_R (i := 4) 11 (.pointer (some ⟨b, 0, none⟩)) rfl rfl (by kernel_rfl) (by kernel_rfl) (by kernel_rfl) (by decide) (fun _ _ _ h => h) (Or.inl ⟨by rfl, ?_⟩) ⟨⟨c0d, c1d⟩, fun _ => trivial⟩ ?_
  · intro W hW; obtain ⟨h0, h1⟩ := hW; go_simp
  simp only [Act.put, List.setIfInBounds_toArray, List.set_cons_zero, List.set_cons_succ]
  refine till_take_R (i := 5) 12 (.pointer (some ⟨b, 0, none⟩)) rfl rfl (by kernel_rfl) (by kernel_rfl) (by kernel_rfl) (by decide) (fun _ _ _ h => h) (Or.inl ⟨by rfl, ?_⟩) ⟨⟨c0d, c1d⟩, fun _ => trivial⟩ ?_
  · intro W hW; obtain ⟨h0, h1⟩ := hW; go_simp
  simp only [Act.put, List.setIfInBounds_toArray, List.set_cons_zero, List.set_cons_succ]
  refine till_take_R (i := 6) 13 (.pointer (some ⟨b, 1, none⟩)) rfl rfl (by kernel_rfl) (by kernel_rfl) (by kernel_rfl) (by decide) (fun _ _ _ h => h) (Or.inl ⟨by rfl, ?_⟩) ⟨⟨c0d, c1d⟩, fun _ => trivial⟩ ?_
  · intro W hW; obtain ⟨h0, h1⟩ := hW; go_simp
  simp only [Act.put, List.setIfInBounds_toArray, List.set_cons_zero, List.set_cons_succ]
  refine till_take_R (i := 7) 14 (.int .i64 n) rfl rfl (by kernel_rfl) (by kernel_rfl) (by kernel_rfl) (by decide) (fun _ _ _ h => h) (Or.inl ⟨by rfl, ?_⟩) ⟨⟨c0d, c1d⟩, fun _ => trivial⟩ ?_
  · intro W hW; obtain ⟨h0, h1⟩ := hW; go_simp
  simp only [Act.put, List.setIfInBounds_toArray, List.set_cons_zero, List.set_cons_succ]
  refine till_take_R (i := 8) 15 (.slice (some ⟨g, n, none⟩) (32 - n) (32 - n)) rfl rfl (by kernel_rfl) (by kernel_rfl) (by kernel_rfl) (by decide) (fun _ _ _ h => h) (Or.inl ⟨by rfl, ?_⟩) ⟨⟨c0d, c1d⟩, fun _ => trivial⟩ ?_
  · intro W hW; obtain ⟨h0, h1⟩ := hW; go_simp; try (intros; omega)
  simp only [Act.put, List.setIfInBounds_toArray, List.set_cons_zero, List.set_cons_succ]
  refine till_take_R (i := 9) 16 (.slice (some ⟨E, 1, none⟩) m c) rfl rfl (by kernel_rfl) (by kernel_rfl) (by kernel_rfl) (by decide) (fun _ _ _ h => h) (Or.inl ⟨by rfl, ?_⟩) ⟨⟨c0d, c1d⟩, fun _ => trivial⟩ ?_
  · intro W hW; obtain ⟨h0, h1⟩ := hW; go_simp
  simp only [Act.put, List.setIfInBounds_toArray, List.set_cons_zero, List.set_cons_succ]
  refine anyS_ready (rs := [10]) (by kernel_rfl) (by simp) ?_
  refine AllS.cons rfl (fun K hK => ?_) AllS.nil
  rw [if_pos (by rfl)]
  refine wp_copy_ran _ _ _ 72 72 rfl _ _ _ _ rfl rfl HCP.out ?_
  have HGR : Hid (wd.grownBy (wd.setRow g (List.take n (Lib.byteCells bs ++ List.replicate (32 - bs.length) (Value.int .u8 0)).toArray.toList ++ Lib.byteCells l ++ List.drop (n + m) (Lib.byteCells bs ++ List.replicate (32 - bs.length) (Value.int .u8 0)).toArray.toList).toArray) (some g)) := Lib.hid ⟨rfl, rfl, rfl, by simp, fun k _ hk => setRow_other _ _ _ _ (fun e => hk (by rw [e]))⟩
  have e0 : (wd.setRow g (List.take n (Lib.byteCells bs ++ List.replicate (32 - bs.length) (Value.int .u8 0)).toArray.toList ++ Lib.byteCells l ++ List.drop (n + m) (Lib.byteCells bs ++ List.replicate (32 - bs.length) (Value.int .u8 0)).toArray.toList).toArray).cell? ⟨b, 0, none⟩ = some (.slice (some ⟨g, 0, none⟩) 32 32) := (World.cell?_of_block (HGR.out.block b hltd (fun e => hne (Option.some.inj e).symm))).trans c0d
  have e1 : (wd.setRow g (List.take n (Lib.byteCells bs ++ List.replicate (32 - bs.length) (Value.int .u8 0)).toArray.toList ++ Lib.byteCells l ++ List.drop (n + m) (Lib.byteCells bs ++ List.replicate (32 - bs.length) (Value.int .u8 0)).toArray.toList).toArray).cell? ⟨b, 1, none⟩ = some (.int .i64 n) := (World.cell?_of_block (HGR.out.block b hltd (fun e => hne (Option.some.inj e).symm))).trans c1d
  have hbx : (wd.setRow g (List.take n (Lib.byteCells bs ++ List.replicate (32 - bs.length) (Value.int .u8 0)).toArray.toList ++ Lib.byteCells l ++ List.drop (n + m) (Lib.byteCells bs ++ List.replicate (32 - bs.length) (Value.int .u8 0)).toArray.toList).toArray).heap[b]? = some (.cells #[.slice (some ⟨g, 0, none⟩) 32 32, .int .i64 bs.length] 88 (0, 0)) := (HGR.out.block b hltd (fun e => hne (Option.some.inj e).symm)).trans HD.out.box
  have HREQ : (List.take n (Lib.byteCells bs ++ List.replicate (32 - bs.length) (Value.int .u8 0)).toArray.toList ++ Lib.byteCells l ++ List.drop (n + m) (Lib.byteCells bs ++ List.replicate (32 - bs.length) (Value.int .u8 0)).toArray.toList) = Lib.byteCells (bs ++ l) ++ List.replicate (32 - (bs ++ l).length) (Value.int .u8 0) := by
    have := HN.out
    have h1 := lim_rows bs l (by omega)
    rw [this.1, this.2]
    exact h1
  have hrow : (wd.setRow g (List.take n (Lib.byteCells bs ++ List.replicate (32 - bs.length) (Value.int .u8 0)).toArray.toList ++ Lib.byteCells l ++ List.drop (n + m) (Lib.byteCells bs ++ List.replicate (32 - bs.length) (Value.int .u8 0)).toArray.toList).toArray).heap[g]? = some (.cells (Lib.byteCells (bs ++ l) ++ List.replicate (32 - (bs ++ l).length) (Value.int .u8 0)).toArray 5 (0, 0)) := by
    rw [← HREQ]
    exact setRow_heap wd g _ (List.take n (Lib.byteCells bs ++ List.replicate (32 - bs.length) (Value.int .u8 0)).toArray.toList ++ Lib.byteCells l ++ List.drop (n + m) (Lib.byteCells bs ++ List.replicate (32 - bs.length) (Value.int .u8 0)).toArray.toList).toArray _ _ HD.out.row
  refine hK.out _ _ ⟨⟨e0, e1⟩, fun _ => trivial⟩ ?_
  clear hK K HREQ
  generalize wd.setRow g (List.take n (Lib.byteCells bs ++ List.replicate (32 - bs.length) (Value.int .u8 0)).toArray.toList ++ Lib.byteCells l ++ List.drop (n + m) (Lib.byteCells bs ++ List.replicate (32 - bs.length) (Value.int .u8 0)).toArray.toList).toArray = we at *
  simp only [Act.put]
  refine anyS_ready (rs := [11]) (by kernel_rfl) (by simp) ?_
  refine AllS.cons rfl (fun K hK => ?_) AllS.nil
  go_simp
  refine hK.out _ _ ⟨⟨e0, e1⟩, fun _ => trivial⟩ ?_
  clear hK K
  refine anyS_done (by kernel_rfl) ?_ _
  have HX := Lib.hid (And.intro hrow hbx)
  have el : b < we.heap.size := (Array.getElem?_eq_some_iff.1 hbx).1
  have ef : we.frozen? ⟨b, 1, none⟩ = false := by simp [World.frozen?, hbx]
  clear hrow hbx c0d c1d
  go_wp2_with fail
  have HLA := Lib.hid (lim_put (l := l) HX.out.1 HX.out.2 hne (by have := HN.out; omega) (x := (n : Int) + (m : Int)) (by have := HN.out; omega))
  have f0 := HLA.out.cell0
  have f1 : (we.setCell ⟨b, 1, none⟩ (.int .i64 ((n : Int) + (m : Int)))).cell? ⟨b, 1, none⟩ = some (.int .i64 ((n : Int) + (m : Int))) := by
    rw [HLA.out.cell1, List.length_append, ← HN.out.1, ← HN.out.2]; rfl
  have fl := HLA.out.lt
  have hn32 : ((n : Int) + (m : Int) == 32) = false := by rw [beq_eq_false_iff_ne]; omega
  have HFIN : Hid (∀ nq, Below B w ((we.setCell ⟨b, 1, none⟩ (.int .i64 ((n : Int) + (m : Int)))).drewN nq) ∧ ∀ k, k < w.heap.size → k ≠ b → k ≠ g → ((we.setCell ⟨b, 1, none⟩ (.int .i64 ((n : Int) + (m : Int)))).drewN nq).heap[k]? = w.heap[k]?) := Lib.hid fun nq => by
    have g1 := HGR.out
    have g2 := grown_cell we b 1 (.int .i64 ((n : Int) + (m : Int)))
    have hsz := HSD.out
    have hx : ∀ k, k < w.heap.size → k ≠ b → k ≠ g → (we.setCell ⟨b, 1, none⟩ (.int .i64 ((n : Int) + (m : Int)))).heap[k]? = w.heap[k]? := fun k hk h1 h2 => by
      rw [g2.block k (by have := g1.size; omega) (fun e => h1 (Option.some.inj e)), g1.block k (by omega) (fun e => h2 (Option.some.inj e)), HKD.out k]
    have hB : w.heap.size ≤ (we.setCell ⟨b, 1, none⟩ (.int .i64 ((n : Int) + (m : Int)))).heap.size := by have := g1.size; have := g2.size; omega
    exact ⟨⟨g2.os.trans (g1.os.trans HBD.out.os), g2.tape.trans (g1.tape.trans HBD.out.tape), g2.output.trans (g1.output.trans HBD.out.output), hB, fun k hk => hx k (by have := HBW.out; omega) (by omega) (by omega)⟩, hx⟩
  clear e0 e1 ef el
  go_quiet (fail)
  go_wp2_with fail
  go_ret2
  exact ⟨rfl, HLA.out.drewN _, HFIN.out _⟩
end Go.Proofs.YtpigccnlembfdaaGreatDoor

/- The walk of limitedWriter's Bytes. Conditions: as the theorem states. -/
namespace Go.Proofs.YtpigccnlembfdaaGreatDoor
open Go.RowKit

set_option maxRecDepth 100000 in
set_option maxHeartbeats 2000000 in
theorem limBytes_any (w : World) (b g : Nat) (bs : List UInt8) (h : LimAt w b g bs) :
    Calls Tryz.prog 48 #[.pointer (some ⟨b, 0, none⟩)] w (fun e w' => e = .returned (.slice (some ⟨g, 0, none⟩) bs.length 32) ∧ ∃ m, w' = w.drewN m) := by
  have c0 := h.cell0
  have c1 := h.cell1
  have hlt := h.lt
  have hl := h.len
  obtain ⟨n, hn⟩ : ∃ n, n = bs.length := ⟨_, rfl⟩
  rw [← hn] at c1 hl ⊢
  have hz : (n : Int) ≤ 32 := by omega
  have hz0 : (0 : Int) ≤ (n : Int) := by omega
  have hz1 : ¬ (n : Int) < 0 := by omega
  have hz2 : ¬ (32 : Int) < (n : Int) := by omega
  clear h hn
  go_enter Tryz.func48, Tryz.ntmps48
  go_wp2_with fail
  go_quiet (fail)
  go_wp2_with fail
  go_ret
  exact ⟨rfl, _, rfl⟩
end Go.Proofs.YtpigccnlembfdaaGreatDoor

/- Appends to the encoder's own array, whatever it holds, where it writes to a limited writer. Conditions: as each theorem states. -/
namespace Go.Proofs.YtpigccnlembfdaaGreatDoor
open Go.RowKit

/-- An encoder's box over a limited writer: its 64 bytes are r. -/
def EncL (w : World) (E b : Nat) (r : List UInt8) : Prop := r.length = 64 ∧ w.heap[E]? = some (.cells (Value.iface 86 (.pointer (some ⟨b, 0, none⟩)) :: Lib.byteCells r).toArray 94 (0, 0))
theorem EncL.lt {w : World} {E b : Nat} {r : List UInt8} (h : EncL w E b r) : E < w.heap.size := (Array.getElem?_eq_some_iff.1 h.2).1
theorem EncL.cell0 {w : World} {E b : Nat} {r : List UInt8} (h : EncL w E b r) : w.cell? ⟨E, 0, none⟩ = some (.iface 86 (.pointer (some ⟨b, 0, none⟩))) := by rw [cell_of_row w E 0 _ _ _ h.2]; rfl
theorem EncL.below {w w' : World} {E b : Nat} {r : List UInt8} (h : EncL w E b r) (hb : Below w.heap.size w w') : EncL w' E b r := ⟨h.1, (hb.block E h.lt).trans h.2⟩
theorem EncL.same {w w' : World} {E b : Nat} {r : List UInt8} (h : EncL w E b r) (hb : w'.heap[E]? = w.heap[E]?) : EncL w' E b r := ⟨h.1, hb.trans h.2⟩
theorem EncL.cells {w : World} {E b : Nat} {l r : List UInt8} (h : EncL w E b (l ++ r)) : ∀ (j : Nat) (u : Value), (Lib.byteCells l)[j]? = some u → w.cell? ((⟨E, 1, none⟩ : Addr).add j) = some u := by
  have e : Lib.byteCells (l ++ r) = Lib.byteCells l ++ Lib.byteCells r := by simp [Lib.byteCells]
  have h2 := h.2
  rw [e] at h2
  exact into_cells h2
/-- What an append to the encoder's array leaves. -/
def IntoL (E b : Nat) (r l : List UInt8) (w : World) (e : Ending) (w' : World) : Prop := e = .returned (.slice (some ⟨E, 1, none⟩) l.length 64) ∧ w.grownBy w' (some E) ∧ EncL w' E b (l ++ r.drop l.length)
theorem run_intoL (w w2 : World) (E b : Nat) (r l : List UInt8) (hE : EncL w E b r) (hb : Below w.heap.size w w2) (hl : l.length ≤ 64) : ∃ w', (Builtin.append_ #[72, 9] 72 #[.slice (some ⟨E, 1, none⟩) 0 64, .string (strL l)]).run Tryz.prog w2 = .ok (.slice (some ⟨E, 1, none⟩) l.length 64) w' ∧ IntoL E b r l w (.returned (.slice (some ⟨E, 1, none⟩) l.length 64)) w' := by
  obtain ⟨i5, hi, he⟩ := Option.map_eq_some_iff.1 info_u8
  have hz1 : i5.size = 1 := congrArg (·.2.1) he
  have hr := hE.1
  have h := run_append_into (P := Tryz.prog) w2 72 9 72 5 94 i5 Tryz.underlying72 Tryz.underlying9 hi hz1 E 64 _ (hE.below hb).2 (strL l) (by rw [strL_size]; exact hl) (by rw [strL_size]; simp [Lib.byteCells]; omega)
  rw [strL_size] at h
  refine ⟨_, h, rfl, (grown_of_below hb _).trans ⟨rfl, rfl, rfl, by simp, fun k _ hk => setRow_other _ _ _ _ (fun e => hk (by rw [e]))⟩, by simp; omega, ?_⟩
  rw [setRow_heap _ _ _ _ _ _ (hE.below hb).2, strCells_strL, Nat.add_comm 1]
  simp [Lib.byteCells]
set_option maxRecDepth 100000 in
theorem appendFloatL_any (w : World) (E bb b N k mant s : Nat) (r : List UInt8) (hE : EncL w E bb r) (hN : N < 9007199254740992) (hk1 : 1 ≤ k) (hk : k ≤ 53) (hm : mant = (2 * N + 1) * 2 ^ (k - 1)) (hW : Word64 b s (1075 - k) mant) :
    Calls Tryz.prog 84 #[.slice (some ⟨E, 1, none⟩) 0 64, .float .f64 b, .int .u8 102, .int .i64 (-1), .int .i64 64] w (IntoL E bb r ((if s = 0 then [] else [45]) ++ (wholeD N ++ [46, 53])) w) := by
  have HF := Lib.hid (fun w' => formatFloat_any w' b N k mant s hN hk1 hk hm hW)
  obtain ⟨S, hS⟩ : ∃ S, S = (if s = 0 then [] else [45]) ++ (wholeD N ++ [46, 53]) := ⟨_, rfl⟩
  have hSl : S.length ≤ 64 := by
    have := whole_len hN
    rw [hS, List.length_append, List.length_append]
    split <;> simp <;> omega
  rw [← hS] at HF ⊢
  clear hS hW hm
  go_enter Tryz.func84, Tryz.ntmps84
  go_wp2_with fail
  refine (HF.out _).mono ?_
  rintro e w2 ⟨rfl, hb2⟩
  obtain ⟨w3, hr, hp⟩ := run_intoL w w2 E bb r S hE hb2 hSl
  have HP := Lib.hid hp
  have HR := Lib.hid hr
  clear hp hr hE hb2
  go_wp2_with (at_builtin; refine wpList_append_ran rfl _ _ 72 9 rfl _ _ _ w3 rfl rfl HR.out ?_)
  go_ret
  exact HP.out
set_option maxRecDepth 100000 in
theorem appendIntL_any (w : World) (E bb : Nat) (x : Int) (r : List UInt8) (hE : EncL w E bb r) (hx0 : -9223372036854775808 < x) (hx1 : x < 9223372036854775808) :
    Calls Tryz.prog 64 #[.slice (some ⟨E, 1, none⟩) 0 64, .int .i64 x, .int .i64 10] w (IntoL E bb r (Lib.itoa x) w) := by
  have HF := Lib.hid (fun w' => formatInt_any w' x (by omega) (by omega))
  obtain ⟨S, hS⟩ : ∃ S, S = Lib.itoa x := ⟨_, rfl⟩
  have hSl : S.length ≤ 64 := by rw [hS]; exact itoa_len x hx0 hx1
  rw [← hS] at HF ⊢
  clear hS
  go_enter Tryz.func64, Tryz.ntmps64
  go_wp2_with fail
  refine (HF.out _).mono ?_
  rintro e w2 ⟨rfl, hb2⟩
  obtain ⟨w3, hr, hp⟩ := run_intoL w w2 E bb r S hE hb2 hSl
  have HP := Lib.hid hp
  have HR := Lib.hid hr
  clear hp hr hE hb2
  go_wp2_with (at_builtin; refine wpList_append_ran rfl _ _ 72 9 rfl _ _ _ w3 rfl rfl HR.out ?_)
  go_ret
  exact HP.out

end Go.Proofs.YtpigccnlembfdaaGreatDoor

/- The walks of encode over a limited writer at null and the bools. Conditions: as each theorem states. -/
namespace Go.Proofs.YtpigccnlembfdaaGreatDoor
open Go.RowKit

/-- An encoder over a limited writer that holds bs; all from block B on. -/
structure StL (w : World) (B b g E : Nat) (bs : List UInt8) : Prop where
  lim : LimAt w b g bs
  enc : ∃ r, EncL w E b r
  lb : B ≤ b
  lg : B ≤ g
  lE : B ≤ E
  le : B ≤ w.heap.size
  neb : E ≠ b
  neg : E ≠ g
/-- Blocks below B, and those that were there but the writer's and the encoder's, are as they were. -/
structure KB (B b g E : Nat) (w w' : World) : Prop where
  below : Below B w w'
  keep : ∀ k, k < w.heap.size → k ≠ b → k ≠ g → k ≠ E → w'.heap[k]? = w.heap[k]?
theorem KB.refl (B b g E : Nat) (w : World) : KB B b g E w w := ⟨Below.refl _ _, fun _ _ _ _ _ => rfl⟩
theorem KB.trans {B b g E : Nat} {w w1 w2 : World} (h : KB B b g E w w1) (h' : KB B b g E w1 w2) : KB B b g E w w2 :=
  ⟨h.below.trans h'.below, fun k hk h1 h2 h3 => (h'.keep k (Nat.lt_of_lt_of_le hk h.below.size) h1 h2 h3).trans (h.keep k hk h1 h2 h3)⟩
theorem KB.drew {B b g E : Nat} {w w1 : World} (h : KB B b g E w w1) : KB B b g E w w1.drew := ⟨h.below.drew, h.keep⟩
theorem KB.cell {B b g E : Nat} {w w1 : World} (h : KB B b g E w w1) {p : Addr} (hp : p.block < B) : w1.cell? p = w.cell? p := h.below.cell hp
theorem KB.of {B b g E : Nat} {w w1 : World} (hb : Below w.heap.size w w1) (hB : B ≤ w.heap.size) : KB B b g E w w1 := ⟨hb.mono hB, fun k hk _ _ _ => hb.block k hk⟩
/-- What encode leaves: the bytes are added. -/
def EncLPost (B b g E : Nat) (bs l : List UInt8) (w : World) (e : Ending) (w' : World) : Prop := e = .returned (.tuple #[]) ∧ StL w' B b g E (bs ++ l) ∧ KB B b g E w w'
theorem StL.write {w w' : World} {B b g E : Nat} {bs l : List UInt8} (h : StL w B b g E bs) (hp : LimPost B b g (bs ++ l) w w') : StL w' B b g E (bs ++ l) ∧ KB B b g E w w' := by
  obtain ⟨r, hE⟩ := h.enc
  exact ⟨⟨hp.1, ⟨r, hE.same (hp.2.2 E hE.lt h.neb h.neg)⟩, h.lb, h.lg, h.lE, Nat.le_trans h.le hp.2.1.size, h.neb, h.neg⟩, hp.2.1, fun k hk h1 h2 _ => hp.2.2 k hk h1 h2⟩
set_option maxRecDepth 100000 in
theorem encodeL_nil (w : World) (B b g E : Nat) (bs : List UInt8) (h : StL w B b g E bs) (hl : bs.length + 4 < 32) :
    Calls Tryz.prog 49 #[.pointer (some ⟨E, 0, none⟩), .nilIface] w (EncLPost B b g E bs [110, 117, 108, 108] w) := by
  obtain ⟨r, hE⟩ := h.enc
  have e0 := hE.cell0
  have hlt := hE.lt
  have HWS := Lib.hid (limStr_any w B b g bs [110, 117, 108, 108] h.lim (by simpa using hl) h.lb h.lg h.le)
  have HST := Lib.hid h
  clear h hE
  go_enter Tryz.func49, Tryz.ntmps49
  go_wp2_with fail
  refine HWS.out.mono ?_
  rintro e w4 ⟨rfl, hp⟩
  have HF := Lib.hid hp
  clear hp
  go_wp2_with fail
  go_end0
  exact ⟨rfl, HST.out.write HF.out⟩
set_option maxRecDepth 100000 in
theorem encodeL_true (w : World) (B b g E : Nat) (bs : List UInt8) (h : StL w B b g E bs) (hl : bs.length + 4 < 32) :
    Calls Tryz.prog 49 #[.pointer (some ⟨E, 0, none⟩), .iface 4 (.bool true)] w (EncLPost B b g E bs [116, 114, 117, 101] w) := by
  obtain ⟨r, hE⟩ := h.enc
  have e0 := hE.cell0
  have hlt := hE.lt
  have HWS := Lib.hid (limStr_any w B b g bs [116, 114, 117, 101] h.lim (by simpa using hl) h.lb h.lg h.le)
  have HST := Lib.hid h
  clear h hE
  go_enter Tryz.func49, Tryz.ntmps49
  go_wp2_with fail
  refine HWS.out.mono ?_
  rintro e w4 ⟨rfl, hp⟩
  have HF := Lib.hid hp
  clear hp
  go_wp2_with fail
  go_end0
  exact ⟨rfl, HST.out.write HF.out⟩
set_option maxRecDepth 100000 in
theorem encodeL_false (w : World) (B b g E : Nat) (bs : List UInt8) (h : StL w B b g E bs) (hl : bs.length + 5 < 32) :
    Calls Tryz.prog 49 #[.pointer (some ⟨E, 0, none⟩), .iface 4 (.bool false)] w (EncLPost B b g E bs [102, 97, 108, 115, 101] w) := by
  obtain ⟨r, hE⟩ := h.enc
  have e0 := hE.cell0
  have hlt := hE.lt
  have HWS := Lib.hid (limStr_any w B b g bs [102, 97, 108, 115, 101] h.lim (by simpa using hl) h.lb h.lg h.le)
  have HST := Lib.hid h
  clear h hE
  go_enter Tryz.func49, Tryz.ntmps49
  go_wp2_with fail
  refine HWS.out.mono ?_
  rintro e w4 ⟨rfl, hp⟩
  have HF := Lib.hid hp
  clear hp
  go_wp2_with fail
  go_end0
  exact ⟨rfl, HST.out.write HF.out⟩
end Go.Proofs.YtpigccnlembfdaaGreatDoor

/- The walk of encodeFloat64 over a limited writer at a half. Conditions: as the theorem states. -/
namespace Go.Proofs.YtpigccnlembfdaaGreatDoor
open Go.RowKit

theorem StL.into {w w' : World} {B b g E : Nat} {bs : List UInt8} (h : StL w B b g E bs) (hg : w.grownBy w' (some E)) (hE : ∃ r, EncL w' E b r) : StL w' B b g E bs ∧ KB B b g E w w' :=
  ⟨⟨h.lim.keep hg (fun e => h.neb (Option.some.inj e)) (fun e => h.neg (Option.some.inj e)), hE, h.lb, h.lg, h.lE, Nat.le_trans h.le hg.size, h.neb, h.neg⟩, (Below.refl B w).grown hg h.le (fun k hk => by injection hk; have := h.lE; omega), fun k hk _ _ h3 => hg.block k hk (fun e => h3 (Option.some.inj e))⟩
set_option maxRecDepth 100000 in
set_option maxHeartbeats 4000000 in
theorem encodeFloatL_any (w : World) (B bb g b E N k mant s : Nat) (bs : List UInt8) (h : StL w B bb g E bs) (hN : N < 9007199254740992) (hk1 : 1 ≤ k) (hk : k ≤ 53) (hm : mant = (2 * N + 1) * 2 ^ (k - 1)) (hW : HalfW b s (1075 - k) mant) (hl : bs.length + ((if s = 0 then [] else [45]) ++ (wholeD N ++ [46, 53])).length < 32) :
    Calls Tryz.prog 65 #[.pointer (some ⟨E, 0, none⟩), .float .f64 b] w (EncLPost B bb g E bs ((if s = 0 then [] else [45]) ++ (wholeD N ++ [46, 53])) w) := by
  obtain ⟨r, hE⟩ := h.enc
  have e0 := hE.cell0
  have hlt := hE.lt
  have hmx := hW.half.max w Tryz.prog
  have hmn := hW.half.min w Tryz.prog
  have HNA := Lib.hid (isNaN_any w b s _ mant hW)
  have HAB := Lib.hid (abs_any w b s _ mant hW)
  have HAF := Lib.hid (appendFloatL_any w E bb b N k mant s r hE hN hk1 hk hm hW.word)
  have hsl : (wholeD N ++ [46, 53]).length ≤ 20 := by have := whole_len hN; simp; omega
  obtain ⟨S, hS⟩ : ∃ S, S = (if s = 0 then [] else [45]) ++ (wholeD N ++ [46, 53]) := ⟨_, rfl⟩
  have hS0 : 0 < S.length := by rw [hS]; simp; omega
  have hS1 : S.length ≤ 64 := by rw [hS, List.length_append]; split <;> simp at hsl ⊢ <;> omega
  rw [← hS] at HAF hl ⊢
  clear hS hsl
  obtain ⟨c, hc⟩ : ∃ c, c = b - s * 9223372036854775808 := ⟨_, rfl⟩
  have h0 := hW.abs.zero
  have h1 := hW.abs.small
  have h2 := hW.abs.great
  rw [← hc] at h0 h1 h2 HAB
  have HST := Lib.hid h
  have HE := Lib.hid hE
  clear hW hc h hE
  go_enter Tryz.func65, Tryz.ntmps65
  go_wp2_with fail
  refine HNA.out.mono ?_
  rintro e w2 ⟨rfl, rfl⟩
  go_wp2_with fail
  refine HAB.out.mono ?_
  rintro e w2 ⟨rfl, rfl⟩
  go_wp2_with fail
  have hge := HE.out
  clear hmx hmn h0 h1 h2
  refine HAF.out.mono ?_
  rintro e w3 ⟨rfl, hg3, hE3⟩
  have hst3 := HST.out.into hg3 ⟨_, hE3⟩
  have e3 := hE3.cell0
  have hlt3 := hE3.lt
  have HWR := Lib.hid (limWrite_any w3 B bb g bs S E 64 hst3.1.lim (by omega) hst3.1.lb hst3.1.lg hst3.1.le hE3.cells)
  have HST3 := Lib.hid hst3
  obtain ⟨n, hn⟩ : ∃ n, n = S.length := ⟨_, rfl⟩
  rw [← hn] at HWR hS1 ⊢
  clear hge hg3 hE3 hn hst3 e0
  go_wp2_with fail
  refine HWR.out.mono ?_
  rintro e w4 ⟨rfl, hp⟩
  have HF := Lib.hid hp
  clear hp
  go_wp2_with fail
  go_end0
  exact ⟨rfl, (HST3.out.1.write HF.out).1, HST3.out.2.trans (HST3.out.1.write HF.out).2⟩
end Go.Proofs.YtpigccnlembfdaaGreatDoor

/- The walks of encode over a limited writer at a half and at an int. Conditions: as each theorem states. -/
namespace Go.Proofs.YtpigccnlembfdaaGreatDoor
open Go.RowKit

set_option maxRecDepth 100000 in
theorem encodeL_half (w : World) (B bb g E b N k mant s : Nat) (bs : List UInt8) (h : StL w B bb g E bs) (hN : N < 9007199254740992) (hk1 : 1 ≤ k) (hk : k ≤ 53) (hm : mant = (2 * N + 1) * 2 ^ (k - 1)) (hW : HalfW b s (1075 - k) mant) (hl : bs.length + ((if s = 0 then [] else [45]) ++ (wholeD N ++ [46, 53])).length < 32) :
    Calls Tryz.prog 49 #[.pointer (some ⟨E, 0, none⟩), .iface 65 (.float .f64 b)] w (EncLPost B bb g E bs ((if s = 0 then [] else [45]) ++ (wholeD N ++ [46, 53])) w) := by
  have HEF := Lib.hid (encodeFloatL_any w B bb g b E N k mant s bs h hN hk1 hk hm hW hl)
  obtain ⟨S, hS⟩ : ∃ S, S = (if s = 0 then [] else [45]) ++ (wholeD N ++ [46, 53]) := ⟨_, rfl⟩
  rw [← hS] at HEF ⊢
  clear hS h hW hm hl
  go_enter Tryz.func49, Tryz.ntmps49
  go_wp2_with fail
  refine HEF.out.mono ?_
  rintro e w4 ⟨rfl, h4⟩
  have HF := Lib.hid h4
  clear h4
  go_wp2_with fail
  go_end0
  exact ⟨rfl, HF.out⟩
set_option maxRecDepth 100000 in
set_option maxHeartbeats 2000000 in
theorem encodeL_int (w : World) (B b g E : Nat) (bs : List UInt8) (x : Int) (h : StL w B b g E bs) (hl : bs.length + (Lib.itoa x).length < 32) (hx0 : -9223372036854775808 < x) (hx1 : x < 9223372036854775808) :
    Calls Tryz.prog 49 #[.pointer (some ⟨E, 0, none⟩), .iface 3 (.int .i64 x)] w (EncLPost B b g E bs (Lib.itoa x) w) := by
  obtain ⟨r, hE⟩ := h.enc
  have e0 := hE.cell0
  have hlt := hE.lt
  have HAI := Lib.hid (appendIntL_any w.drew E b x r hE hx0 hx1)
  have hS1 := itoa_len x hx0 hx1
  have hS0 : 0 < (Lib.itoa x).length := by
    unfold Lib.itoa
    split
    · simp
    · exact List.length_pos_iff.2 (dec_facts _).2.2.1
  obtain ⟨S, hS⟩ : ∃ S, S = Lib.itoa x := ⟨_, rfl⟩
  rw [← hS] at HAI hS0 hS1 hl ⊢
  clear hS
  have HFR := Lib.hid h
  have HEE := Lib.hid hE
  clear h hE
  go_enter Tryz.func49, Tryz.ntmps49
  go_wp2_with fail
  refine wp_region_S (Sf := Till 13 (fun W => W.cell? ⟨E, 0, none⟩ = some (.iface 86 (.pointer (some ⟨b, 0, none⟩)))) (fun _ => True)) (by kernel_rfl) ?_
  have e0d : w.drew.cell? ⟨E, 0, none⟩ = some (.iface 86 (.pointer (some ⟨b, 0, none⟩))) := e0
  clear e0
  refine till_take_R (i := 0) 39 (.pointer (some ⟨E, 0, none⟩)) rfl rfl (by kernel_rfl) (by kernel_rfl) (by kernel_rfl) (by decide) (fun _ _ _ h => h) (Or.inl ⟨by rfl, ?_⟩) ⟨e0d, fun _ => trivial⟩ ?_
  · intro W hW; go_simp
  simp only [Act.put, List.setIfInBounds_toArray, List.set_cons_zero, List.set_cons_succ]
  refine till_take_R (i := 1) 40 (.pointer (some ⟨E, 0, none⟩)) rfl rfl (by kernel_rfl) (by kernel_rfl) (by kernel_rfl) (by decide) (fun _ _ _ h => h) (Or.inl ⟨by rfl, ?_⟩) ⟨e0d, fun _ => trivial⟩ ?_
  · intro W hW; go_simp
  simp only [Act.put, List.setIfInBounds_toArray, List.set_cons_zero, List.set_cons_succ]
  refine till_take_R (i := 2) 41 (.pointer (some ⟨E, 0, none⟩)) rfl rfl (by kernel_rfl) (by kernel_rfl) (by kernel_rfl) (by decide) (fun _ _ _ h => h) (Or.inl ⟨by rfl, ?_⟩) ⟨e0d, fun _ => trivial⟩ ?_
  · intro W hW; go_simp
  simp only [Act.put, List.setIfInBounds_toArray, List.set_cons_zero, List.set_cons_succ]
  refine till_take_R (i := 3) 42 (.iface 86 (.pointer (some ⟨b, 0, none⟩))) rfl rfl (by kernel_rfl) (by kernel_rfl) (by kernel_rfl) (by decide) (fun _ _ _ h => h) (Or.inl ⟨by rfl, ?_⟩) ⟨e0d, fun _ => trivial⟩ ?_
  · intro W hW; go_simp
  simp only [Act.put, List.setIfInBounds_toArray, List.set_cons_zero, List.set_cons_succ]
  refine till_take_R (i := 4) 43 (.pointer (some ⟨E, 0, none⟩)) rfl rfl (by kernel_rfl) (by kernel_rfl) (by kernel_rfl) (by decide) (fun _ _ _ h => h) (Or.inl ⟨by rfl, ?_⟩) ⟨e0d, fun _ => trivial⟩ ?_
  · intro W hW; go_simp
  simp only [Act.put, List.setIfInBounds_toArray, List.set_cons_zero, List.set_cons_succ]
  refine till_take_R (i := 5) 44 (.pointer (some ⟨E, 0, none⟩)) rfl rfl (by kernel_rfl) (by kernel_rfl) (by kernel_rfl) (by decide) (fun _ _ _ h => h) (Or.inl ⟨by rfl, ?_⟩) ⟨e0d, fun _ => trivial⟩ ?_
  · intro W hW; go_simp
  simp only [Act.put, List.setIfInBounds_toArray, List.set_cons_zero, List.set_cons_succ]
  refine till_take_R (i := 6) 45 (.pointer (some ⟨E, 1, none⟩)) rfl rfl (by kernel_rfl) (by kernel_rfl) (by kernel_rfl) (by decide) (fun _ _ _ h => h) (Or.inl ⟨by rfl, ?_⟩) ⟨e0d, fun _ => trivial⟩ ?_
  · intro W hW; go_simp
  simp only [Act.put, List.setIfInBounds_toArray, List.set_cons_zero, List.set_cons_succ]
  refine till_take_R (i := 7) 46 (.slice (some ⟨E, 1, none⟩) 0 64) rfl rfl (by kernel_rfl) (by kernel_rfl) (by kernel_rfl) (by decide) (fun _ _ _ h => h) (Or.inl ⟨by rfl, ?_⟩) ⟨e0d, fun _ => trivial⟩ ?_
  · intro W hW; go_simp
  simp only [Act.put, List.setIfInBounds_toArray, List.set_cons_zero, List.set_cons_succ]
  refine till_take_R (i := 8) 47 (.int .i64 x) rfl rfl (by kernel_rfl) (by kernel_rfl) (by kernel_rfl) (by decide) (fun _ _ _ h => h) (Or.inl ⟨by rfl, ?_⟩) ⟨e0d, fun _ => trivial⟩ ?_
  · intro W hW; go_simp
  simp only [Act.put, List.setIfInBounds_toArray, List.set_cons_zero, List.set_cons_succ]
  refine till_take_R (i := 10) 49 (.iface 86 (.pointer (some ⟨b, 0, none⟩))) rfl rfl (by kernel_rfl) (by kernel_rfl) (by kernel_rfl) (by decide) (fun _ _ _ h => h) (Or.inl ⟨by rfl, ?_⟩) ⟨e0d, fun _ => trivial⟩ ?_
  · intro W hW; go_simp
  simp only [Act.put, List.setIfInBounds_toArray, List.set_cons_zero, List.set_cons_succ]
  refine till_take_R (i := 11) 50 (.iface 86 (.pointer (some ⟨b, 0, none⟩))) rfl rfl (by kernel_rfl) (by kernel_rfl) (by kernel_rfl) (by decide) (fun _ _ _ h => h) (Or.inl ⟨by rfl, ?_⟩) ⟨e0d, fun _ => trivial⟩ ?_
  · intro W hW; go_simp
  simp only [Act.put, List.setIfInBounds_toArray, List.set_cons_zero, List.set_cons_succ]
  refine anyS_ready (rs := [9]) (by kernel_rfl) (by simp) ?_
  refine AllS.cons rfl (fun K hK => ?_) AllS.nil
  go_simp
  refine HAI.out.mono ?_
  rintro e w3 ⟨rfl, hg3, hE3⟩
  have hst3 := (show StL w.drew B b g E bs from ⟨HFR.out.lim.drew, ⟨r, HEE.out.1, HEE.out.2⟩, HFR.out.lb, HFR.out.lg, HFR.out.lE, HFR.out.le, HFR.out.neb, HFR.out.neg⟩).into hg3 ⟨_, hE3⟩
  have e3 := hE3.cell0
  have HWR := Lib.hid (limWrite_any w3 B b g bs S E 64 hst3.1.lim (by omega) hst3.1.lb hst3.1.lg hst3.1.le hE3.cells)
  have HST3 := Lib.hid (And.intro hst3.1 ((KB.refl B b g E w).drew.trans hst3.2))
  have HE3 := Lib.hid hE3
  refine hK.out _ _ ⟨e3, fun _ => trivial⟩ ?_
  clear hK K hst3 hg3 hE3
  refine anyS_ready (rs := [12]) (by kernel_rfl) (by simp) ?_
  refine AllS.cons rfl (fun K hK => ?_) AllS.nil
  go_simp
  refine HWR.out.mono ?_
  rintro e w4 ⟨rfl, hp⟩
  have e4 : w4.cell? ⟨E, 0, none⟩ = some (.iface 86 (.pointer (some ⟨b, 0, none⟩))) := (World.cell?_of_block (hp.2.2 E HE3.out.lt HST3.out.1.neb HST3.out.1.neg)).trans e3
  have HF := Lib.hid (HST3.out.1.write hp)
  refine hK.out _ _ ⟨e4, fun _ => trivial⟩ ?_
  clear hK K hp e4 e3
  refine anyS_done (by kernel_rfl) ?_ _
  go_wp2_with fail
  go_end0
  exact ⟨rfl, HF.out.1, HST3.out.2.trans HF.out.2⟩
end Go.Proofs.YtpigccnlembfdaaGreatDoor
