/- The walks of the encoder's parts: appends to its buffer, a strings.Builder's Write. Conditions: as each theorem states. -/
import Derived.Test.YtpigccnlembfdaaGreatDoorFmtF
import Derived.Test.YtpigccnlembfdaaGreatDoorQuote
import Derived.Laws.CopyRow
namespace Go.Proofs.YtpigccnlembfdaaGreatDoor
open Go.RowKit Go.Shelf

theorem run_append_into {P : Program} (w : World) (t u ty : TypeId) (e T : TypeId) (i : TypeInfo) (ht : P.underlying t = some (.slice e)) (hu : P.underlying u = some .string) (hi : P.info? e = some i) (hs1 : i.size = 1)
    (g sCap : Nat) (cur : Array Value) (hg : w.heap[g]? = some (.cells cur T (0, 0))) (s : ByteArray) (hroom : s.size ≤ sCap) (hfit : 1 + s.size ≤ cur.size) :
    (Builtin.append_ #[t, u] ty #[.slice (some ⟨g, 1, none⟩) 0 sCap, .string s]).run P w =
      .ok (.slice (some ⟨g, 1, none⟩) s.size sCap) (w.setRow g (cur.toList.take 1 ++ Lib.strCells s ++ cur.toList.drop (1 + s.size)).toArray) := by
  have hf := Lib.run_firstCells_string (P := P) w 1 s
  have hst := run_storeCells_at P g 1 T (Lib.strCells s) 0 cur w hg (by simpa [Lib.strCells_length] using hfit) (Lib.strCells_oneCell s)
  simp only [Nat.add_zero, Lib.strCells_length] at hst
  have ha : (⟨g, 1, none⟩ : Addr).add 0 = ⟨g, 1, none⟩ := by unfold Addr.add; split <;> simp_all
  simp [Builtin.append_, run_underlying ht, run_underlying hu, sizeOf, typeInfo, hi, hs1, Builtin.lenOf, hroom, hf, ha, hst]

theorem wpList_append_ran {P : Program} {w : World} {ops : Array Oper} {rest : List Oper} {o : Oper} {a : Act} {Q : Exit → Act → World → Prop} (hgd : o.guard = none) (sl x : Operand) (t u : TypeId)
    (ho : o.op = .call { callee := .builtin .append, args := #[sl, x], argTypes := #[t, u] }) (v vx v' : Value) (w' : World) (hs : a.eval sl = v) (hx : a.eval x = vx)
    (hr : (Builtin.append_ #[t, u] o.type #[v, vx]).run P w = .ok v' w') (h : wpList P ops Q rest (a.put o.dst v') w') : wpList P ops Q (o :: rest) a w := by
  refine wpList_plain hgd fun K hK => ?_
  unfold Oper.wp execOp
  simp only [ho, resolve, invoke, builtin, Sem.run_bind, Sem.run_pure, Result.andThen_ok, List.map_toArray, List.map_cons, List.map_nil, hs, hx, hr]
  exact hK _ _ h

/-- An encoder's box: where it writes, and its 64 bytes. -/
def EncAt (w : World) (E b : Nat) : Prop := w.heap[E]? = some (.cells (Value.iface 144 (.pointer (some ⟨b, 0, none⟩)) :: List.replicate 64 (Value.int .u8 0)).toArray 94 (0, 0))
theorem EncAt.lt {w : World} {E b : Nat} (h : EncAt w E b) : E < w.heap.size := (Array.getElem?_eq_some_iff.1 h).1
theorem EncAt.cell0 {w : World} {E b : Nat} (h : EncAt w E b) : w.cell? ⟨E, 0, none⟩ = some (.iface 144 (.pointer (some ⟨b, 0, none⟩))) := by rw [cell_of_row w E 0 _ _ _ h]; rfl
theorem EncAt.below {w w' : World} {E b : Nat} (h : EncAt w E b) (hb : Below w.heap.size w w') : EncAt w' E b := (hb.block E h.lt).trans h
theorem strCells_strL (l : List UInt8) : Lib.strCells (strL l) = Lib.byteCells l := by simp [Lib.strCells, Lib.byteCells, strL]
/-- What an append to the encoder's buffer leaves. -/
def IntoPost (E b : Nat) (l : List UInt8) (w : World) (e : Ending) (w' : World) : Prop := e = .returned (.slice (some ⟨E, 1, none⟩) l.length 64) ∧ w.grownBy w' (some E) ∧
  ∃ r, w'.heap[E]? = some (.cells (Value.iface 144 (.pointer (some ⟨b, 0, none⟩)) :: (Lib.byteCells l ++ r)).toArray 94 (0, 0))
theorem into_of {w w2 : World} {E b : Nat} {l : List UInt8} (hE : EncAt w E b) (hb : Below w.heap.size w w2) :
    IntoPost E b l w (.returned (.slice (some ⟨E, 1, none⟩) (strL l).size 64)) (w2.setRow E ((Value.iface 144 (.pointer (some ⟨b, 0, none⟩)) :: List.replicate 64 (Value.int .u8 0)).toArray.toList.take 1 ++ Lib.strCells (strL l) ++ (Value.iface 144 (.pointer (some ⟨b, 0, none⟩)) :: List.replicate 64 (Value.int .u8 0)).toArray.toList.drop (1 + (strL l).size)).toArray) := by
  refine ⟨by rw [strL_size], ?_, ?_⟩
  · exact (grown_of_below hb _).trans ⟨rfl, rfl, rfl, by simp, fun k _ hk => setRow_other _ _ _ _ (fun e => hk (by rw [e]))⟩
  · refine ⟨(List.replicate 64 (Value.int .u8 0)).drop l.length, ?_⟩
    rw [setRow_heap _ _ _ _ _ _ (hE.below hb), strCells_strL, strL_size, Nat.add_comm 1]
    rfl
theorem run_into (w w2 : World) (E b : Nat) (l : List UInt8) (hE : EncAt w E b) (hb : Below w.heap.size w w2) (hl : l.length ≤ 64) : ∃ w', (Builtin.append_ #[72, 9] 72 #[.slice (some ⟨E, 1, none⟩) 0 64, .string (strL l)]).run Tryz.prog w2 = .ok (.slice (some ⟨E, 1, none⟩) l.length 64) w' ∧ IntoPost E b l w (.returned (.slice (some ⟨E, 1, none⟩) l.length 64)) w' := by
  obtain ⟨i5, hi, he⟩ := Option.map_eq_some_iff.1 info_u8
  have hz1 : i5.size = 1 := congrArg (·.2.1) he
  have h := run_append_into (P := Tryz.prog) w2 72 9 72 5 94 i5 Tryz.underlying72 Tryz.underlying9 hi hz1 E 64 _ (hE.below hb) (strL l) (by rw [strL_size]; exact hl) (by rw [strL_size]; simp; omega)
  have h2 := into_of (l := l) hE hb
  rw [strL_size] at h h2
  exact ⟨_, h, h2⟩
theorem itoa_len (x : Int) (h0 : -9223372036854775808 < x) (h1 : x < 9223372036854775808) : (Lib.itoa x).length ≤ 64 := by
  unfold Lib.itoa
  have := dec_length 19 x.natAbs (by omega)
  have := dec_length 19 x.toNat (by omega)
  split <;> simp <;> omega
set_option maxRecDepth 100000 in
theorem appendFloat_any (w : World) (E bb b N k mant s : Nat) (hE : EncAt w E bb) (hN : N < 9007199254740992) (hk1 : 1 ≤ k) (hk : k ≤ 53) (hm : mant = (2 * N + 1) * 2 ^ (k - 1)) (hW : Word64 b s (1075 - k) mant) :
    Calls Tryz.prog 84 #[.slice (some ⟨E, 1, none⟩) 0 64, .float .f64 b, .int .u8 102, .int .i64 (-1), .int .i64 64] w (IntoPost E bb ((if s = 0 then [] else [45]) ++ (wholeD N ++ [46, 53])) w) := by
  have HF := Lib.hid (fun w' => formatFloat_any w' b N k mant s hN hk1 hk hm hW)
  obtain ⟨S, hS⟩ : ∃ S, S = (if s = 0 then [] else [45]) ++ (wholeD N ++ [46, 53]) := ⟨_, rfl⟩
  have hSl : S.length ≤ 64 := by
    have := whole_len hN
    rw [hS, List.length_append, List.length_append]
    split <;> simp <;> omega
  rw [← hS] at HF ⊢
  clear hS hW hm
  go_enter Tryz.func84, Tryz.ntmps84
  go_wp2_with fail
  refine (HF.out _).mono ?_
  rintro e w2 ⟨rfl, hb2⟩
  obtain ⟨w3, hr, hp⟩ := run_into w w2 E bb S hE hb2 hSl
  have HP := Lib.hid hp
  have HR := Lib.hid hr
  clear hp hr hE hb2
  go_wp2_with (at_builtin; refine wpList_append_ran rfl _ _ 72 9 rfl _ _ _ w3 rfl rfl HR.out ?_)
  go_ret
  exact HP.out
set_option maxRecDepth 100000 in
theorem appendInt_any (w : World) (E bb : Nat) (x : Int) (hE : EncAt w E bb) (hx0 : -9223372036854775808 < x) (hx1 : x < 9223372036854775808) :
    Calls Tryz.prog 64 #[.slice (some ⟨E, 1, none⟩) 0 64, .int .i64 x, .int .i64 10] w (IntoPost E bb (Lib.itoa x) w) := by
  have HF := Lib.hid (fun w' => formatInt_any w' x (by omega) (by omega))
  obtain ⟨S, hS⟩ : ∃ S, S = Lib.itoa x := ⟨_, rfl⟩
  have hSl : S.length ≤ 64 := by rw [hS]; exact itoa_len x hx0 hx1
  rw [← hS] at HF ⊢
  clear hS
  go_enter Tryz.func64, Tryz.ntmps64
  go_wp2_with fail
  refine (HF.out _).mono ?_
  rintro e w2 ⟨rfl, hb2⟩
  obtain ⟨w3, hr, hp⟩ := run_into w w2 E bb S hE hb2 hSl
  have HP := Lib.hid hp
  have HR := Lib.hid hr
  clear hp hr hE hb2
  go_wp2_with (at_builtin; refine wpList_append_ran rfl _ _ 72 9 rfl _ _ _ w3 rfl rfl HR.out ?_)
  go_ret
  exact HP.out

/-! ### strings.Builder -/
theorem writeString_any (w : World) (B b : Nat) (bs : List Value) (s : ByteArray) (h : Lib.IsBuilder 146 5 B b bs w) (hlen : bs.length + s.size ≤ 140737488355328) (hBw : B ≤ w.heap.size) :
    Calls Tryz.prog 96 #[.pointer (some ⟨b, 0, none⟩), .string s] w fun e w' => e = .returned (.tuple #[.int .i64 s.size, .nilIface]) ∧ (Lib.BuilderAt 146 5 B b (.pointer (some ⟨b, 0, none⟩)) (bs ++ Lib.strCells s) w' ∧ Below B w w') :=
  Any.Builder_WriteString { Tryz.laysJoin with } joinExtra B b bs s w h hlen hBw
theorem builderString_any (w : World) (B b : Nat) (l : List UInt8) (h : Lib.IsBuilder 146 5 B b (Lib.byteCells l) w) (hBw : B ≤ w.heap.size) :
    Calls Tryz.prog 94 #[.pointer (some ⟨b, 0, none⟩)] w fun e w' => e = .returned (.string ⟨l.toArray⟩) ∧ Below B w w' :=
  Any.Builder_String_any { Tryz.laysJoin with } joinExtra B b l w h hBw
theorem copyCheck_any (w : World) (B b : Nat) (bs : List Value) (h : Lib.IsBuilder 146 5 B b bs w) :
    Calls Tryz.prog 111 #[.pointer (some ⟨b, 0, none⟩)] w fun e w' => e = .returned (.tuple #[]) ∧ Lib.BuilderAt 146 5 B b (.pointer (some ⟨b, 0, none⟩)) bs w' ∧ w.grownBy w' (some b) := by
  rcases h with h | h
  · refine (Any.Builder_copyCheck_fresh { Tryz.laysJoin with } joinExtra.toX72 b w h.cell0 h.shape h.frozen0).mono ?_
    rintro e w' ⟨rfl, rfl⟩
    exact ⟨rfl, h.used _, grown_cell w b 0 _⟩
  · refine (Any.Builder_copyCheck_used { Tryz.laysJoin with } joinExtra.toX72 b w h.cell0).mono ?_
    rintro e w' ⟨rfl, rfl⟩
    exact ⟨rfl, h, ⟨rfl, rfl, rfl, Nat.le_refl _, fun _ _ _ => rfl⟩⟩
set_option maxRecDepth 100000 in
theorem write_any (w : World) (B b E n c : Nat) (bs news : List Value) (h : Lib.IsBuilder 146 5 B b bs w) (hBw : B ≤ w.heap.size) (hEb : E ≠ b) (hE : E < w.heap.size) (hn : news.length = n) (hn0 : 0 < n)
    (cs0 : Array Value) (hblk : w.heap[E]? = some (.cells cs0 94 (0, 0))) (hcells : ∀ j u, news[j]? = some u → w.cell? ((⟨E, 1, none⟩ : Addr).add j) = some u) (h1 : ∀ u ∈ news, u.oneCell' = true) (hlen : bs.length + n ≤ 140737488355328) :
    Calls Tryz.prog 198 #[.pointer (some ⟨b, 0, none⟩), .slice (some ⟨E, 1, none⟩) n c] w fun e w' => e = .returned (.tuple #[.int .i64 n, .nilIface]) ∧ Lib.BuilderAt 146 5 B b (.pointer (some ⟨b, 0, none⟩)) (bs ++ news) w' ∧ Below B w w' ∧ w'.heap[E]? = w.heap[E]? := by
  obtain ⟨i5, hi, he⟩ := Option.map_eq_some_iff.1 info_u8
  have hz0 : i5.zero = some (.int .u8 0) := congrArg (·.1) he
  have hz1 : i5.size = 1 := congrArg (·.2.1) he
  have hz2 : i5.bytes = 1 := congrArg (·.2.2) he
  have HCC := Lib.hid (copyCheck_any w B b bs h)
  have HB := Lib.hid h
  have HC := Lib.hid hcells
  have HN := Lib.hid hn
  have H1 := Lib.hid h1
  have HBLK := Lib.hid hblk
  clear h hcells he hn h1 hblk
  go_enter Tryz.func198, Tryz.ntmps198
  go_wp2_with fail
  refine HCC.out.mono ?_
  rintro e w1 ⟨rfl, hat, hg1⟩
  obtain ⟨hB, v, hbk, hown, hne⟩ := hat
  have hb1 : Below B w w1 := (Below.refl B w).grown hg1 hBw (fun k hk => by injection hk; omega)
  have hcell1 : ∀ j u, news[j]? = some u → w1.cell? ((⟨E, 1, none⟩ : Addr).add j) = some u := fun j u hj => by
    have h0 := HC.out j u hj
    have ha : ((⟨E, 1, none⟩ : Addr).add j).block = E := by unfold Addr.add; split <;> rfl
    rw [← h0]
    exact World.cell?_of_block (by rw [ha]; exact hg1.block E hE (fun e => hEb (by injection e)))
  have c1 : w1.cell? ⟨b, 1, none⟩ = some v := by rw [Lib.cell_of_heap hbk]; rfl
  have hlt : b < w1.heap.size := (Array.getElem?_eq_some_iff.1 hbk).1
  have hblk1 : w1.heap[E]? = some (.cells cs0 94 (0, 0)) := (hg1.block E hE (fun e => hEb (by injection e))).trans HBLK.out
  have hneE := Lib.ownBlock_ne hown hblk1 (by decide)
  have HNE := Lib.hid (And.intro hneE hblk1)
  have hE1 : E < w1.heap.size := (Array.getElem?_eq_some_iff.1 hblk1).1
  have HC1 := Lib.hid hcell1
  have HBK := Lib.hid hbk
  have HG1 := Lib.hid hb1
  have hsz1 := hb1.size
  clear hcell1 hbk hg1 hb1 hneE hblk1
  go_wp2_with (at_builtin; refine wpList_append_lies _ rfl _ _ 72 rfl B 5 i5 (.int .u8 0) 1 1 Tryz.underlying72 hi hz0 hz1 hz2 rfl (by decide) v bs.length bs rfl hown ⟨E, 1, none⟩ n c news rfl (by rw [HN.out, Nat.mul_one]) HC1.out H1.out hn0 (by unfold maxLen; omega) (by omega) (by omega) _ rfl ?_)
  intro g cap w2 hown2 hg2 _ hlt2
  have hb2 : w2.heap[b]? = some (.cells #[.pointer (some ⟨b, 0, none⟩), v] 146 (0, 0)) := (hg2.block b hlt (fun e => hne e.symm)).trans HBK.out
  have d1 : w2.cell? ⟨b, 1, none⟩ = some v := by rw [Lib.cell_of_heap hb2]; rfl
  have f1 : w2.frozen? ⟨b, 1, none⟩ = false := Lib.frozen_of_heap hb2 1
  have hlb2 : b < w2.heap.size := (Array.getElem?_eq_some_iff.1 hb2).1
  have hfin := Lib.BuilderAt.put (T := 146) (e := 5) hB hb2 (bs' := bs ++ news) (v' := .slice (some ⟨g, 0, none⟩) (bs.length + n) cap) (by rw [List.length_append, HN.out]; exact hown2) (by decide)
  have hbel := (HG1.out.grown hg2 (by omega) (fun k hk => (hown.lt k hk).1)).setCell (p := ⟨b, 1, none⟩) hB (.slice (some ⟨g, 0, none⟩) (bs.length + n) cap)
  have hkeep : (w2.setCell ⟨b, 1, none⟩ (.slice (some ⟨g, 0, none⟩) (bs.length + n) cap)).heap[E]? = w.heap[E]? := by
    rw [(grown_cell w2 b 1 _).block E (Nat.lt_of_lt_of_le hE1 hg2.size) (fun e => hEb (by injection e)), hg2.block E hE1 (fun e => HNE.out.1 e.symm), HNE.out.2, HBLK.out]
  have HF := Lib.hid (And.intro hfin (And.intro hbel hkeep))
  clear hfin hbel hown2 hg2 hown hne hkeep
  go_wp2_with fail
  go_ret2
  exact ⟨rfl, HF.out⟩
end Go.Proofs.YtpigccnlembfdaaGreatDoor
