/- FnPreview: for every input the law returns true, and each argument reads behind the call as it read before; the card ties the two listed tables of package utf8 to the program's text. Conditions: those of the given row. -/
import Derived.Test.YtpigccnlembfdaaGreatDoorCards
import Derived.Test.YtpigccnlembfdaaGreatDoorTie
import Derived.Test.YtpigccnlembfdaaGreatDoorPvM
import Derived.Test.YtpigccnlembfdaaGreatDoorShelf
import Derived.Lib.LaidIn
import Derived.Lib.LaidU8T
import Derived.Deep.DeepHandedRow
import Derived.Deep.DeepWitnessRowRef
import Derived.ProofKit
import Derived.OpenShut
import Derived.SizedLaws
import Derived.PinnedBridge
import Derived.Carry
import Derived.MakeChecks
namespace Go.Proofs.YtpigccnlembfdaaGreatDoor.fnPreview
open Go.ChangeShapes Go.WideShapes Go.ChangeAt Go.RowKit Go.Shelf Go.Lib

theorem laidOut : laidOutB Tryz.prog = true := by kernel_rfl
theorem own : ownKnob Tryz.prog.godebug = none := by kernel_rfl

/-- The two tables of package utf8 lie where the program's variables are. -/
def Tabs (w : World) : Prop := Lib.Utf8Tabs (Tryz.laysValid_ren.g 3) (Tryz.laysValid_ren.g 4) w
theorem tabs_keep (w w' : World) (g : Nat) (hg : 2 ≤ g) (h : Tabs w) (hb : w.grownBy w' (some g)) : Tabs w' := by
  have hc : ∀ p : Addr, p.block < 2 → p.block < w.heap.size → w'.cell? p = w.cell? p := fun p hp hlt => World.cell?_of_block (hb.block p.block hlt (fun e => by injection e; omega))
  refine ⟨fun c hcc => ?_, fun i hi => ⟨?_, ?_⟩⟩
  · have h1 := h.1 c hcc
    exact (hc _ (show (Tryz.laysValid_ren.g 3) < 2 by decide) (World.block_lt_of_cell? w _ h1)).trans h1
  · have h1 := (h.2 i hi).1
    exact (hc _ (show (Tryz.laysValid_ren.g 4) < 2 by decide) (World.block_lt_of_cell? w _ h1)).trans h1
  · have h1 := (h.2 i hi).2
    exact (hc _ (show (Tryz.laysValid_ren.g 4) < 2 by decide) (World.block_lt_of_cell? w _ h1)).trans h1
theorem tabs_size (w : World) (h : Tabs w) : 2 ≤ w.heap.size := by
  have := World.block_lt_of_cell? w _ (h.2 0 (by decide)).1
  exact this
theorem valid : ValidSaid Tabs := fun s w hs hT => Any.utf8_ValidString Tryz.laysValid s w hs hT
theorem decode : DecodeSaid Tabs := fun s w hT => Any.utf8_DecodeRuneInString Tryz.laysDecode s w hT
theorem tabs_below : TabsKeep Tabs 2 := fun w w' B hB h hb => by
  have hc : ∀ p : Addr, p.block < 2 → w'.cell? p = w.cell? p := fun p hp => hb.cell (by omega)
  refine ⟨fun c hcc => ?_, fun i hi => ⟨?_, ?_⟩⟩
  · exact (hc _ (show (Tryz.laysValid_ren.g 3) < 2 by decide)).trans (h.1 c hcc)
  · exact (hc _ (show (Tryz.laysValid_ren.g 4) < 2 by decide)).trans (h.2 i hi).1
  · exact (hc _ (show (Tryz.laysValid_ren.g 4) < 2 by decide)).trans (h.2 i hi).2

theorem laid_eq : Rows.fnPreviewRow.laid = [("unicode/utf8.acceptRanges", Lib.acceptData), ("unicode/utf8.first", Lib.firstData)] := by
  have e1 : (Rows.laid_unicode_utf8_acceptRanges : DataW Unit) = Lib.acceptData := by kernel_rfl
  show [("unicode/utf8.acceptRanges", Rows.laid_unicode_utf8_acceptRanges), ("unicode/utf8.first", Rows.laid_unicode_utf8_first)] = _
  rw [e1, show Rows.laid_unicode_utf8_first = Lib.firstData from Pinned.utf8First_eq]
theorem tables {W : World} (h : laidMetH Tryz.prog Rows.fnPreviewRow.laid W) : Tabs W := by
  rw [laid_eq, Go.MakeChecks.laidMetH_plain _ _ _ (by kernel_rfl)] at h
  exact utf8Tabs_of_readsT (U8Types.of196 Tryz.laysValid) ⟨by kernel_rfl, by kernel_rfl, by kernel_rfl, by kernel_rfl, by kernel_rfl, by kernel_rfl, by kernel_rfl⟩ (Lib.laidMet.reads h (.tail _ (.head _))) (Lib.laidMet.reads h (.head _))

set_option maxRecDepth 100000 in
/-- What the walk gives, for every argument and every world that holds the tables. -/
theorem contract (H : Type) (enc : TypeId × Value → H) (W : World) (base : Nat) (args : Array Value) (ds gs : List (DataW H)) (before : List MemPlace)
    (hval : ∀ (j : Nat) t v, Tryz.f3.params[j]? = some t → args[j]? = some v → Value.okWide Tryz.prog W .any base t v)
    (hW : DataW.Whole enc Tryz.prog Tryz.f3.params.toList Rows.fnPreviewSpec.vars false W args.toList ds gs before)
    (hsz0 : (DataW.weightsEach Tryz.prog (Tryz.f3.params.toList ++ (OpenSpec.ofChange Rows.fnPreviewSpec).bare.plain.varTypes Tryz.prog) (ds ++ gs)).all (· ≤ reachBytes) = true) (hL : laidMetH Tryz.prog Rows.fnPreviewRow.laid W) :
    Calls Tryz.prog 3 args W fun e W' => ∃ v, e = .returned v ∧ Rows.fnPreviewSpec.post enc Tryz.prog Tryz.f3 false true false false W args v W' := by
  have hW' := hW
  obtain ⟨p, q, hA0, hV, rfl, hfz, hnd⟩ := hW
  have hA : DataW.TrodAll enc Tryz.prog W 0 (fun _ => true) true Tryz.f3.params.toList args.toList ds p := hA0
  rw [Tryz.params3] at hA hval hsz0
  obtain ⟨v0, vs0, d0, ds0, p0, q0, hargs, rfl, rfl, h0, r0⟩ := trodAll_cons hA
  obtain ⟨rfl, rfl, rfl⟩ := trodAll_nil r0
  obtain rfl : args = #[v0] := by cases args; simp_all
  obtain ⟨rfl, rfl⟩ := trodVars_none hV
  have hs0 : Small 26 d0 := fun m hm => by
    have := List.all_eq_true.1 hsz0 m (DataW.weights_mem_each (j := 0) (t := 26) (d := d0) rfl rfl m hm)
    exact of_decide_eq_true this
  obtain ⟨cs0, rfl, _⟩ := okWide_struct Tryz.underlying26 (hval 0 26 v0 rfl rfl)
  obtain ⟨fuel0, hf0⟩ := h0
  obtain ⟨X0, hX0, H0⟩ := open_val fuel0 cs0.toList _ hf0 hs0
  have hv0 : Value.agg cs0 = X0.val := by unfold V.val; rw [← hX0]
  have hT := tables hL
  have hN := tabs_size W hT
  have hlt0 : ∀ x ∈ p0, x.block < W.heap.size := fun x hx => hW'.lt x (by simp [hx])
  have walk : Calls Tryz.prog 3 #[X0.val] W (Same0 W (.bool true)) := prev_any valid decode tabs_keep tabs_below X0 W H0 hN hT
  rw [← hv0] at walk
  refine walk.mono fun e W' ⟨he, hb⟩ => ?_
  subst he
  have e1 : Rows.fnPreviewSpec.fn H ([d0] ++ []) = { results := [.lit (.bool true)], args := [d0] } := rfl
  refine ⟨_, rfl, _, _, _, [], p0 ++ [], [], hW', ?_, ?_, ?_, hb.frame _, fun h => by cases h⟩
  · rw [e1]; exact trodAll_mk1 (shut_bool Tryz.underlying4 _)
  · rw [e1]; exact trodAll_cons_mk (Below.trod laidOut (by kernel_rfl) (of_decide_eq_true (by kernel_rfl)) ⟨fuel0, hf0⟩ hb hlt0) (trodAll_mk0)
  · rw [e1]; rfl

/-- A world for the witness: the settled one, the two tables holding what their initialisers lay. -/
noncomputable def laidWorld (os : Os) : World :=
  let w0 := World.holding Tryz.prog os ⟨#[], #[], []⟩
  let put (h : Array Obj) (g : Nat) (cs : Array Value) : Array Obj := h.modify g fun
    | .cells _ t frozen => .cells cs t frozen
    | o => o
  let h1 := put w0.heap 0 (Lib.firstTab.map fun z => Value.int .u8 z).toArray
  let h2 := put h1 1 ((List.range 16).flatMap fun i => [Value.int .u8 (Lib.accLo i), Value.int .u8 (Lib.accHi i)]).toArray
  { w0 with heap := h2 }
theorem laid_met (os : Os) (args : Array Value) : laidMet Tryz.prog Rows.fnPreviewRow.laid ((laidWorld os).forCall (fun _ _ => 0) ⟨#[], args, []⟩).memory := by
  rw [laid_eq]
  exact (LaidIn.of_run (l := [("unicode/utf8.acceptRanges", Lib.acceptData), ("unicode/utf8.first", Lib.firstData)]) [1, 0] 8 (by kernel_rfl) (by kernel_rfl) (by kernel_rfl) (by kernel_rfl)).met

theorem witness_row (os : Os) {H : Type} (enc : TypeId × Value → H) :
    (OpenSpec.ofChange Rows.fnPreviewSpec).preRow enc Tryz.prog Tryz.f3 Rows.fnPreviewRow.domain false Rows.fnPreviewRow.laid ((laidWorld os).forCall (fun _ _ => 0) ⟨#[], #[.agg #[.int .i64 0, .int .i64 0, .string ⟨#[]⟩, .slice none 0 0, .slice none 0 0, .slice none 0 0]], []⟩).memory #[.agg #[.int .i64 0, .int .i64 0, .string ⟨#[]⟩, .slice none 0 0, .slice none 0 0, .slice none 0 0]] := by
  have hw : (DataW.whole enc Tryz.prog ((laidWorld os).forCall (fun _ _ => 0) ⟨#[], #[.agg #[.int .i64 0, .int .i64 0, .string ⟨#[]⟩, .slice none 0 0, .slice none 0 0, .slice none 0 0]], []⟩).memory Tryz.f3.params.toList Rows.fnPreviewSpec.vars false (#[.agg #[.int .i64 0, .int .i64 0, .string ⟨#[]⟩, .slice none 0 0, .slice none 0 0, .slice none 0 0]] : Array Value).toList 8).map (fun x => (x.1, x.2.1)) =
      some ([.agg [.lit (.int .i64 0), .lit (.int .i64 0), .lit (.string []), .nil, .nil, .nil]], []) := by kernel_rfl
  obtain ⟨⟨x1, x2, x3⟩, hx, hx1⟩ := Option.map_eq_some_iff.1 hw
  simp only [Prod.mk.injEq] at hx1
  obtain ⟨rfl, rfl⟩ := hx1
  exact OpenSpec.preRow_of_cond 8 hx (by kernel_rfl) (fun k hk => by cases hk) (by kernel_rfl) (laid_met os _)

set_option maxRecDepth 100000 in
set_option maxHeartbeats 2000000 in
theorem lifted (os : Os) (started : os.Started) (H : Type) (enc : TypeId × Value → H) (F : Stop.Interp) :
    ReturnsInHanded {} Tryz.checked os 3 .any ((OpenSpec.ofChange Rows.fnPreviewSpec).preRow enc Tryz.prog Tryz.f3 Rows.fnPreviewRow.domain false Rows.fnPreviewRow.laid) (((OpenSpec.ofChange Rows.fnPreviewSpec).at F).post enc Tryz.prog Tryz.f3 false true false false) := by
  refine returnsInHanded_of_row (C := Tryz.checked) (s := OpenSpec.ofChange Rows.fnPreviewSpec) own started (by kernel_rfl) Tryz.func3
    (witness_row_atRef (enc := enc) (C := Tryz.checked) false (laidWorld os) #[.agg #[.int .i64 0, .int .i64 0, .string ⟨#[]⟩, .slice none 0 0, .slice none 0 0, .slice none 0 0]] rfl (by kernel_rfl) (by kernel_rfl) (by kernel_rfl) (witness_row os enc)) ?_
  intro W base args ds gs before hval hW _ _ hsz hL _ _
  exact contract H enc W base args ds gs before hval hW hsz hL

theorem said : Rows.FnPreviewSaid :=
  OpenClaim.holds_of_cond 3 Tryz.f3 rfl rfl rfl rfl rfl rfl rfl ⟨rfl, rfl, rfl, rfl, rfl⟩ rfl rfl rfl rfl rfl (by kernel_rfl) Tryz.func3 (by kernel_rfl)
    (of_decide_eq_true (by kernel_rfl)) (by unfold Func.isWrapper; rw [if_neg (of_decide_eq_false (by kernel_rfl))]; exact ⟨rfl, rfl⟩)
    (fun os started H enc _ F => by rw [OpenClaim.pre_eq_preRow]; exact lifted os started H enc F)

/-- No parameter wants a stand-in; the program's own looks are off: what the card asks. -/
theorem plain (f : FuncId) (fn : Func) (hf : Tryz.pinned.checked.prog.funcNamed "pub-strainer/laws.FnPreview" = some f) (hfn : Tryz.pinned.checked.prog.funcs[f]? = some fn) :
    true = Tryz.pinned.checked.prog.looks [] ∧ ∀ (j : Nat) t, fn.params[j]? = some t → Tryz.pinned.checked.prog.wantsStandIn t = false := by
  obtain rfl : f = 3 := Option.some.inj ((show Tryz.prog.funcNamed "pub-strainer/laws.FnPreview" = some 3 by kernel_rfl).symm.trans hf) |>.symm
  obtain rfl : fn = Tryz.f3 := (Option.some.inj (Tryz.func3.symm.trans hfn)).symm
  refine ⟨by kernel_rfl, fun j t ht => ?_⟩
  rw [Tryz.params3] at ht
  obtain rfl : t = 26 := by simpa using Array.mem_of_getElem? ht
  exact (show Tryz.prog.wantsStandIn 26 = false by kernel_rfl)

/-- The card. -/
theorem card : Rows.FnPreviewCardSaid :=
  Claim7.holds_tied_plain_at .later [] _ _ _ _ said (fun _ h => by cases h) (by kernel_rfl) (fun _ h => by cases h) fnPreview_row_tie rfl ⟨rfl, rfl⟩ (by kernel_rfl) rfl plain (by kernel_rfl)
#print axioms card
end Go.Proofs.YtpigccnlembfdaaGreatDoor.fnPreview
