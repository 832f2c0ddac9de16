/- FnBigNegate: for every input the law returns true, and each argument reads behind the call as it read before; the card ties the thirteen listed variables of strconv and math/bits to the program's text. Conditions: those of the given row. -/
import Derived.Test.YtejmjkeeakfodaaGreatDoorCards
import Derived.Test.YtejmjkeeakfodaaGreatDoorTie
import Derived.Test.YtejmjkeeakfodaaGreatDoorBigLaw
import Derived.Test.YtejmjkeeakfodaaGreatDoorShelf
import Derived.Shelf.Strconv.ParseIntPublic10
import Derived.Shelf.Strconv.ErrVarParseInt
import Derived.Shelf.Strconv.Itoa3
import Derived.Lib.LaidTab
import Derived.Lib.LaidU8
import Derived.Lib.AppendIntMem
import Derived.Deep.DeepHandedRow
import Derived.Deep.DeepWitnessRowRef
import Derived.ProofKit
import Derived.OpenShut
import Derived.SizedLaws
import Derived.PinnedBridge
import Derived.Carry
import Derived.MakeChecks
import Derived.Lay
namespace Go.Proofs.YtejmjkeeakfodaaGreatDoor.fnBigNegate
open Go.ChangeShapes Go.WideShapes Go.ChangeAt Go.RowKit Go.Shelf Go.Lib

theorem laidOut : laidOutB Tryz.prog = true := by kernel_rfl
theorem own : ownKnob Tryz.prog.godebug = none := by kernel_rfl

/-- The table of powers of ten and the error of a number out of range lie where the program's variables are. -/
def Tabs (w : World) : Prop := Lib.TabIs Tryz.prog w "internal/strconv.uint64pow10" .u64 Lib.pow10Tab ∧ ∃ tp p, w.var? Tryz.prog "strconv.ErrRange" = some #[.iface tp p]
theorem var_lt {w : World} {n : String} {cs : Array Value} {g : Nat} (hg : Tryz.prog.globalNamed n = some g) (h : w.var? Tryz.prog n = some cs) : g < w.heap.size := by
  unfold World.var? at h
  simp only [hg, Option.bind_some] at h
  rcases Nat.lt_or_ge g w.heap.size with h' | h'
  · exact h'
  · rw [Array.getElem?_eq_none h'] at h; cases h
theorem var_keep {w w' : World} {n : String} {cs : Array Value} (hb : Below w.heap.size w w') (hg : ∃ g, Tryz.prog.globalNamed n = some g) (h : w.var? Tryz.prog n = some cs) : w'.var? Tryz.prog n = some cs := by
  obtain ⟨g, hg⟩ := hg
  exact var?_below hb hg (var_lt hg h) h
theorem named_pow : ∃ g, Tryz.prog.globalNamed "internal/strconv.uint64pow10" = some g := Option.isSome_iff_exists.1 (by kernel_rfl)
theorem named_err : ∃ g, Tryz.prog.globalNamed "strconv.ErrRange" = some g := Option.isSome_iff_exists.1 (by kernel_rfl)
theorem tabs_keep {w w' : World} (h : Tabs w) (hb : Below w.heap.size w w') : Tabs w' := by
  obtain ⟨h1, tp, p, h2⟩ := h
  exact ⟨var_keep hb named_pow h1, tp, p, var_keep hb named_err h2⟩

theorem parse : ParseSaid Tabs := fun z w hlen hT => by
  have hp : Lib.parseIntB 64 (str (Lib.itoa z)).data.toList = _ := (congrArg (Lib.parseIntB 64) (str_list (Lib.itoa z))).trans (parse_itoa z)
  have hs : (str (Lib.itoa z)).size ≤ 400 := by rw [str_size]; exact hlen
  refine ⟨fun hz => ?_, fun hz => ?_⟩
  · have hp := hp.trans (if_pos (show -9223372036854775808 ≤ z ∧ z ≤ 9223372036854775807 from hz))
    refine (Any.strconv_ParseInt_10_at64_ok Tryz.laysParse (str (Lib.itoa z)) (by omega) z hp w).mono fun e w' ⟨he, hw⟩ => ⟨he, ?_⟩
    rcases hw with rfl | ⟨t, rfl⟩
    · exact Below.refl _ _
    · exact Lib.bytesWorld_below _ _ _
  · have hp := hp.trans (if_neg (show ¬ (-9223372036854775808 ≤ z ∧ z ≤ 9223372036854775807) from hz))
    obtain ⟨_, tp, p, hv⟩ := hT
    exact (Any.strconv_ParseInt_10_at64_range_var Tryz.laysParse (str (Lib.itoa z)) (by omega) hp tp p w hv).mono fun e w' ⟨N, he, _, _, hb⟩ => ⟨_, _, _, he, hb⟩
theorem itoaS : ItoaSaid Tabs := fun z w hz hT =>
  (Any.strconv_Itoa Tryz.laysItoa z hz.1 hz.2 w hT.1).mono fun e w' ⟨he, k, os, hw⟩ => ⟨he, by subst hw; exact Lib.below_grow _ w (Nat.le_refl _) k os⟩

theorem iface_of_reads {w : World} {n nm : String} {d : DataW Unit} {g : Nat} {t : TypeId} {ms : Array (String × TypeId)} (hg : Tryz.prog.globalNamed n = some g) (ht : (Tryz.prog.globals[g]?).map (·.type) = some t) (hi : Tryz.prog.underlying t = some (.interface ms))
    (h : Lib.VarReads Tryz.prog w n (.iface nm d)) : ∃ tp p, w.var? Tryz.prog n = some #[.iface tp p] := by
  obtain ⟨g', t', cs, fuel, p, h1, h2, h3, h4⟩ := h
  obtain rfl := Option.some.inj (hg.symm.trans h1)
  obtain rfl := Option.some.inj (ht.symm.trans h2)
  obtain ⟨l⟩ := cs
  cases fuel with
  | zero => simp [DataW.trod] at h4
  | succ fuel =>
    rcases l with _ | ⟨x, _ | ⟨y, r⟩⟩
    · simp [DataW.trod, hi] at h4
    · cases x with
      | iface u v => exact ⟨u, v, h3⟩
      | _ => simp [DataW.trod, hi] at h4
    · cases x <;> simp [DataW.trod, hi] at h4
theorem tables {W : World} (h : laidMetH Tryz.prog Rows.fnBigNegateRow.laid W) : Tabs W := by
  rw [Go.MakeChecks.laidMetH_plain _ _ _ (by kernel_rfl)] at h
  have e1 : (Rows.laid_internal_strconv_uint64pow10 : DataW Unit) = Lib.tabData .u64 Lib.pow10Tab := by kernel_rfl
  have r1 := Lib.laidMet.reads h (n := "internal/strconv.uint64pow10") (d := Rows.laid_internal_strconv_uint64pow10) (List.mem_iff_getElem?.2 ⟨8, rfl⟩)
  have r2 := Lib.laidMet.reads h (n := "strconv.ErrRange") (d := Rows.laid_strconv_ErrRange) (List.mem_iff_getElem?.2 ⟨9, rfl⟩)
  refine ⟨?_, iface_of_reads (show Tryz.prog.globalNamed "strconv.ErrRange" = some (Tryz.laysParse_ren.g 16) by kernel_rfl) (show _ = some 39 by kernel_rfl) Tryz.underlying39 r2⟩
  rw [e1] at r1
  obtain ⟨g', t', cs, fuel, p, h1, h2, h3, h4⟩ := r1
  obtain rfl := Option.some.inj ((show Tryz.prog.globalNamed "internal/strconv.uint64pow10" = some (Tryz.laysItoa_ren.g 17) by kernel_rfl).symm.trans h1)
  obtain rfl := Option.some.inj ((show (Tryz.prog.globals[Tryz.laysItoa_ren.g 17]?).map (·.type) = some 86 by kernel_rfl).symm.trans h2)
  have := Lib.cells_of_tab Tryz.underlying86 Tryz.underlying65 (by kernel_rfl) (by kernel_rfl) h4
  unfold Lib.TabIs
  rw [h3, ← this]

set_option maxRecDepth 100000 in
/-- What the walk gives, for every argument and every world that holds the tables. -/
theorem contract (H : Type) (enc : TypeId × Value → H) (W : World) (base : Nat) (args : Array Value) (ds gs : List (DataW H)) (before : List MemPlace)
    (hval : ∀ (j : Nat) t v, Tryz.f3.params[j]? = some t → args[j]? = some v → Value.okWide Tryz.prog W .any base t v)
    (hW : DataW.Whole enc Tryz.prog Tryz.f3.params.toList Rows.fnBigNegateSpec.vars false W args.toList ds gs before)
    (hsz0 : (DataW.weightsEach Tryz.prog (Tryz.f3.params.toList ++ (OpenSpec.ofChange Rows.fnBigNegateSpec).bare.plain.varTypes Tryz.prog) (ds ++ gs)).all (· ≤ reachBytes) = true) (hL : laidMetH Tryz.prog Rows.fnBigNegateRow.laid W) :
    Calls Tryz.prog 3 args W fun e W' => ∃ v, e = .returned v ∧ Rows.fnBigNegateSpec.post enc Tryz.prog Tryz.f3 false true false false W args v W' := by
  have hW' := hW
  obtain ⟨p, q, hA0, hV, rfl, hfz, hnd⟩ := hW
  have hA : DataW.TrodAll enc Tryz.prog W 0 (fun _ => true) true Tryz.f3.params.toList args.toList ds p := hA0
  rw [Tryz.params3] at hA hval hsz0
  obtain ⟨v0, vs0, d0, ds0, p0, q0, hargs, rfl, rfl, h0, r0⟩ := trodAll_cons hA
  obtain ⟨rfl, rfl, rfl⟩ := trodAll_nil r0
  obtain rfl : args = #[v0] := by cases args; simp_all
  obtain ⟨rfl, rfl⟩ := trodVars_none hV
  obtain ⟨s0, rfl, rfl, rfl, hs0⟩ := Go.ChangeMaps.open_string Tryz.underlying9 (hval 0 9 v0 rfl rfl) h0
  have hT := tables hL
  have walk : Calls Tryz.prog 3 #[.string s0] W (SaysB W (.bool true)) := bigLaw_any parse itoaS s0 W (by unfold maxLen at hs0; omega) (fun w' hb => tabs_keep hT hb)
  refine walk.mono fun e W' ⟨he, hb⟩ => ?_
  subst he
  have e1 : Rows.fnBigNegateSpec.fn H ([.lit (.string s0.data.toList)] ++ []) = { results := [.lit (.bool true)], args := [.lit (.string s0.data.toList)] } := rfl
  refine ⟨_, rfl, _, _, _, [], [] ++ [], [], hW', ?_, ?_, ?_, hb.frame _, fun h => by cases h⟩
  · rw [e1]; exact trodAll_mk1 (shut_bool Tryz.underlying4 _)
  · rw [e1]; exact trodAll_cons_mk (Go.ChangeMaps.shut_string Tryz.underlying9 hs0) (trodAll_mk0)
  · rw [e1]; rfl

/-- A world for the witness: the settled one, the listed variables laid. -/
noncomputable def laidWorld (os : Os) : World := World.laidAll Tryz.prog os Rows.fnBigNegateRow.laid
theorem lay_fits (os : Os) : (World.holding Tryz.prog os ⟨#[], #[], []⟩).layFits Tryz.prog Rows.fnBigNegateRow.laid [] = true := by kernel_rfl
theorem lay_ifaces (os : Os) : (World.holding Tryz.prog os ⟨#[], #[], []⟩).layIfaces Tryz.prog Rows.fnBigNegateRow.laid (laidWorld os) = true := by kernel_rfl
theorem laid_met (os : Os) (args : Array Value) : laidMet Tryz.prog Rows.fnBigNegateRow.laid ((laidWorld os).forCall (fun _ _ => 0) ⟨#[], args, []⟩).memory := laidMet_laidAll args (lay_fits os) (lay_ifaces os)

theorem witness_row (os : Os) {H : Type} (enc : TypeId × Value → H) :
    (OpenSpec.ofChange Rows.fnBigNegateSpec).preRow enc Tryz.prog Tryz.f3 Rows.fnBigNegateRow.domain false Rows.fnBigNegateRow.laid ((laidWorld os).forCall (fun _ _ => 0) ⟨#[], #[.string ⟨#[]⟩], []⟩).memory #[.string ⟨#[]⟩] := by
  have hw : (DataW.whole enc Tryz.prog ((laidWorld os).forCall (fun _ _ => 0) ⟨#[], #[.string ⟨#[]⟩], []⟩).memory Tryz.f3.params.toList Rows.fnBigNegateSpec.vars false (#[.string ⟨#[]⟩] : Array Value).toList 8).map (fun x => (x.1, x.2.1)) =
      some ([.lit (.string [])], []) := by kernel_rfl
  obtain ⟨⟨x1, x2, x3⟩, hx, hx1⟩ := Option.map_eq_some_iff.1 hw
  simp only [Prod.mk.injEq] at hx1
  obtain ⟨rfl, rfl⟩ := hx1
  exact OpenSpec.preRow_of_cond 8 hx (by kernel_rfl) (fun k hk => by cases hk) (by kernel_rfl) (laid_met os _)

/-- There is an input that fits: as the kit's witness_row_atRef, the world's shape in one pass. -/
theorem witness_zip {H : Type} {enc : TypeId × Value → H} {C : Checked} {os : Os} {f : FuncId} {fn : Func} {s : OpenSpec} {conds : List PathCond} {apart : Bool} {laid : List (String × DataW Unit)} (modest : Bool) (w0 : World) (args : Array Value) (hos : w0.os = os)
    (hv : (w0.forCall (fun _ _ => 0) ⟨#[], args, []⟩).variablesZipB C.prog = true)
    (hr : ((w0.forCall (fun _ _ => 0) ⟨#[], args, []⟩).heap.toList.drop C.prog.globals.size).take ((begin C.prog (fun _ _ => 0) default).world.heap.size - C.prog.globals.size) =
      (begin C.prog (fun _ _ => 0) default).world.heap.toList.drop C.prog.globals.size)
    (hok : Input.okWideB C.prog (w0.forCall (fun _ _ => 0) ⟨#[], args, []⟩) f ⟨#[], args, []⟩ = true)
    (hrow : s.preRow enc C.prog fn conds apart laid (w0.forCall (fun _ _ => 0) ⟨#[], args, []⟩).memory args) :
    ∃ (w : World) (tape : Tape) (i : Input), w.os = os ∧ (w.forCall tape i).Shaped C.prog ∧ i.vars = [] ∧ Input.okWide C.prog (w.forCall tape i) .any w.heap.size f i ∧
      s.preRow enc C.prog fn conds apart laid (w.forCall tape i).memory i.args ∧ ({ modest := modest } : Assume).holds C.prog (lone (Frame.enter C.prog f i.args .normal) [] (w.forCall tape i)) :=
  ⟨w0, fun _ _ => 0, ⟨#[], args, []⟩, hos, World.shaped_of_ZipB hv hr, (Input.okWide_of_okWideB (base := 0) hok).1, (Input.okWide_of_okWideB hok).2, hrow, by
    simp only [Assume.holds]
    exact ⟨by simp, by simp, fun _ => Modest.zero, by simp, by simp⟩⟩

set_option maxRecDepth 100000 in
set_option maxHeartbeats 2000000 in
theorem lifted (os : Os) (started : os.Started) (H : Type) (enc : TypeId × Value → H) (F : Stop.Interp) :
    ReturnsInHanded {} Tryz.checked os 3 .any ((OpenSpec.ofChange Rows.fnBigNegateSpec).preRow enc Tryz.prog Tryz.f3 Rows.fnBigNegateRow.domain false Rows.fnBigNegateRow.laid) (((OpenSpec.ofChange Rows.fnBigNegateSpec).at F).post enc Tryz.prog Tryz.f3 false true false false) := by
  refine returnsInHanded_of_row (C := Tryz.checked) (s := OpenSpec.ofChange Rows.fnBigNegateSpec) own started (by kernel_rfl) Tryz.func3
    (witness_zip (enc := enc) (C := Tryz.checked) false (laidWorld os) #[.string ⟨#[]⟩] (World.laidAll_os _ _ _) (by kernel_rfl) (by kernel_rfl) (by kernel_rfl) (witness_row os enc)) ?_
  intro W base args ds gs before hval hW _ _ hsz hL _ _
  exact contract H enc W base args ds gs before hval hW hsz hL

theorem said : Rows.FnBigNegateSaid :=
  OpenClaim.holds_of_cond 3 Tryz.f3 rfl rfl rfl rfl rfl rfl rfl ⟨rfl, rfl, rfl, rfl, rfl⟩ rfl rfl rfl rfl rfl (by kernel_rfl) Tryz.func3 (by kernel_rfl)
    (of_decide_eq_true (by kernel_rfl)) (by unfold Func.isWrapper; rw [if_neg (of_decide_eq_false (by kernel_rfl))]; exact ⟨rfl, rfl⟩)
    (fun os started H enc _ F => by rw [OpenClaim.pre_eq_preRow]; exact lifted os started H enc F)

/-- No parameter wants a stand-in; the program's own looks are off: what the card asks. -/
theorem plain (f : FuncId) (fn : Func) (hf : Tryz.pinned.checked.prog.funcNamed "pub-strainer/laws.FnBigNegate" = some f) (hfn : Tryz.pinned.checked.prog.funcs[f]? = some fn) :
    true = Tryz.pinned.checked.prog.looks [] ∧ ∀ (j : Nat) t, fn.params[j]? = some t → Tryz.pinned.checked.prog.wantsStandIn t = false := by
  obtain rfl : f = 3 := Option.some.inj ((show Tryz.prog.funcNamed "pub-strainer/laws.FnBigNegate" = some 3 by kernel_rfl).symm.trans hf) |>.symm
  obtain rfl : fn = Tryz.f3 := (Option.some.inj (Tryz.func3.symm.trans hfn)).symm
  refine ⟨by kernel_rfl, fun j t ht => ?_⟩
  rw [Tryz.params3] at ht
  obtain rfl : t = 9 := by simpa using Array.mem_of_getElem? ht
  exact (show Tryz.prog.wantsStandIn 9 = false by kernel_rfl)

/-- The card. -/
theorem card : Rows.FnBigNegateCardSaid :=
  Claim7.holds_tied_plain_at .later [] _ _ _ _ said (fun _ h => by cases h) (by kernel_rfl) (fun _ h => by cases h) fnBigNegate_row_tie rfl ⟨rfl, rfl⟩ (by kernel_rfl) rfl plain (by kernel_rfl)
#print axioms card
end Go.Proofs.YtejmjkeeakfodaaGreatDoor.fnBigNegate
