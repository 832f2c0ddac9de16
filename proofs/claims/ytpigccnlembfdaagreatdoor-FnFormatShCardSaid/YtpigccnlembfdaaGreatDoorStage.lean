/- Regions that draw their order: an operation that only reads may be taken first although a store that waits for it will change what it reads: what it reads is known till that store has come up. Conditions: as each theorem states. -/
import Derived.Deep.RegionHeld3
import Derived.Lib.Hide
namespace Go.Proofs.YtpigccnlembfdaaGreatDoor

section
variable {P : Program} {md : Region.Mode} {ops : Array Oper} {Q : Exit → Act → World → Prop} {Sf : Array Bool → World → Prop}

/-- Whatever order is picked from here on; behind each operation Sf holds of what has come up and the world. -/
def anyS (P : Program) (md : Region.Mode) (ops : Array Oper) (Q : Exit → Act → World → Prop) (Sf : Array Bool → World → Prop) : Nat → Array Bool → Act → World → Prop
  | 0, l, a, w => Region.ready md ops l = [] ∧ Q .normal a w
  | n + 1, l, a, w => (Region.ready md ops l = [] → Q .normal a w) ∧
    ∀ i ∈ Region.ready md ops l, wpOp P ops Q i (fun a' w' => Sf (l.setIfInBounds i true) w' ∧ anyS P md ops Q Sf n (l.setIfInBounds i true) a' w') a w

theorem wpAny_of_anyS : ∀ (n : Nat) (l : Array Bool) (a : Act) (w : World), anyS P md ops Q Sf n l a w → wpAny P md ops Q n l a w
  | 0, _, _, _, h => h
  | n + 1, _, _, _, h => ⟨h.1, fun i hi => wpOp_mono (fun a' w' h' => wpAny_of_anyS n _ a' w' h'.2) (h.2 i hi)⟩

theorem anyS_first {T : World → Prop} {OK : Array Bool → Prop} {i : Nat} {oi : Oper} {v : Value} (hi : ops[i]? = some oi) (hsel : ∀ (j : Nat) (o : Oper) cs b, ops[j]? = some o → o.op ≠ .select cs b)
    (hQ : ∀ c a w, Q (.panic c) (a.put oi.dst v) w → Q (.panic c) a w) (hT : ∀ l w, OK l → Sf l w → T w)
    (hOK : ∀ l j, OK l → l.getD i true = false → j ∈ Region.ready md ops l → j ≠ i → OK (l.setIfInBounds j true)) (hinv : ∀ l w, Sf (l.setIfInBounds i true) w ↔ Sf l w) :
    ∀ (n : Nat) (l : Array Bool) (a : Act) (w : World),
      (∀ j oj, ops[j]? = some oj → j ≠ i → l.getD j true = false → (∀ e ∈ oj.after, Region.binds md e = true → e.on ≠ i) → oi.apart ops oj = true) →
      i ∈ Region.ready md ops l → OK l → YieldsIf P ops T oi v a → Sf l w →
      anyS P md ops Q Sf n (l.setIfInBounds i true) (a.put oi.dst v) w → anyS P md ops Q Sf (n + 1) l a w := by
  intro n
  induction n with
  | zero =>
    intro l a w _ hr hok hy hS H
    refine ⟨fun h => (by rw [h] at hr; cases hr), fun j hj => ?_⟩
    by_cases hji : j = i
    · subst hji
      exact hy.wpOp hi (hT l w hok hS) ⟨(hinv l w).2 hS, H⟩
    · have hm := ready_mono hj hji
      rw [H.1] at hm
      cases hm
  | succ n ih =>
    intro l a w hfree hr hok hy hS H
    refine ⟨fun h => (by rw [h] at hr; cases hr), fun j hj => ?_⟩
    by_cases hji : j = i
    · subst hji
      exact hy.wpOp hi (hT l w hok hS) ⟨(hinv l w).2 hS, H⟩
    · have hstep := H.2 j (ready_mono hj hji)
      obtain ⟨hjun, oj, hoj, hall⟩ := mem_ready.1 hj
      have hiun := (mem_ready.1 hr).1
      have hnot : ∀ e ∈ oj.after, Region.binds md e = true → e.on ≠ i := fun e he hb heq => by
        have hon := hall e he hb
        rw [heq] at hon
        rcases Nat.lt_or_ge i l.size with hlt | hge
        · simp [hlt] at hiun hon
          rw [hiun] at hon
          cases hon
        · simp [Array.getElem?_eq_none hge] at hiun
      have hcomm := wpOp_putIf hoj (hfree j oj hoj hji hjun hnot) (fun cs b => hsel i oi cs b hi) (fun cs b => hsel j oj cs b hoj) hQ hy hstep
      refine wpOp_mono (fun a' w' h3 => ?_) hcomm
      have hS' : Sf (l.setIfInBounds j true) w' := by
        have := h3.2.1
        rw [Array.setIfInBounds_comm _ _ (Ne.symm hji)] at this
        exact (hinv _ _).1 this
      refine ⟨hS', ih (l.setIfInBounds j true) a' w' (fun k ok hk hki hun hno => ?_) (ready_mono hr (Ne.symm hji)) (hOK l j hok hiun hj hji) h3.1 hS' ?_⟩
      · refine hfree k ok hk hki ?_ hno
        by_cases hjk : j = k
        · subst hjk; exact hjun
        · rw [getD_set_ne true hjk] at hun; exact hun
      · rw [Array.setIfInBounds_comm _ _ hji]
        exact h3.2.2

/-- R holds throughout, S till operation d has come up. -/
def Till (d : Nat) (R S : World → Prop) (l : Array Bool) (w : World) : Prop := R w ∧ (l.getD d true = false → S w)

variable {R S : World → Prop} {d : Nat}

theorem till_inv {i : Nat} (hid : i ≠ d) (l : Array Bool) (w : World) : Till d R S (l.setIfInBounds i true) w ↔ Till d R S l w := by
  unfold Till
  rw [getD_set_ne true hid]

/-- Taken first: what it reads is known throughout. -/
theorem till_take_R {i : Nat} {oi : Oper} (t : Tmp) (v : Value) {n : Nat} {l : Array Bool} {a : Act} {w : World} (hi : ops[i]? = some oi) (hdt : oi.dst = some t) (hs : Region.noSelect ops = true) (hf : Region.free md ops l i = true) (hr : (Region.ready md ops l).contains i = true)
    (hid : i ≠ d) (hQ : ∀ c a w, Q (.panic c) (a.put oi.dst v) w → Q (.panic c) a w) (hy : YieldsIf P ops R oi v a) (hS : Till d R S l w)
    (h : anyS P md ops Q (Till d R S) n (l.setIfInBounds i true) (a.put (some t) v) w) : anyS P md ops Q (Till d R S) (n + 1) l a w :=
  anyS_first (v := v) (T := R) (OK := fun _ => True) hi (Region.noSelect_spec hs) hQ (fun _ _ _ h => h.1) (fun _ _ _ _ _ _ => trivial) (till_inv hid) n l a w (Region.free_spec hi hf) (by simpa using hr) trivial hy hS (hdt ▸ h)

/-- Does operation d wait for operation i? -/
def waits (md : Region.Mode) (ops : Array Oper) (d i : Nat) : Bool := match ops[d]? with
  | some o => o.after.any fun e => Region.binds md e && e.on == i
  | none => false

/-- Taken first: what it reads is known till d, which waits for it, has come up. -/
theorem till_take_S {i : Nat} {oi : Oper} (t : Tmp) (v : Value) {n : Nat} {l : Array Bool} {a : Act} {w : World} (hi : ops[i]? = some oi) (hdt : oi.dst = some t) (hs : Region.noSelect ops = true) (hf : Region.free md ops l i = true) (hr : (Region.ready md ops l).contains i = true)
    (hid : i ≠ d) (hw : waits md ops d i = true) (hl : l.getD d true = false) (hQ : ∀ c a w, Q (.panic c) (a.put oi.dst v) w → Q (.panic c) a w) (hy : YieldsIf P ops S oi v a) (hS : Till d R S l w)
    (h : anyS P md ops Q (Till d R S) n (l.setIfInBounds i true) (a.put (some t) v) w) : anyS P md ops Q (Till d R S) (n + 1) l a w := by
  refine anyS_first (T := S) (OK := fun l => l.getD d true = false) hi (Region.noSelect_spec hs) hQ (fun _ _ hok h => h.2 hok) (fun l j hok hun hj hji => ?_) (till_inv hid) n l a w (Region.free_spec hi hf) (by simpa using hr) hl hy hS (hdt ▸ h)
  have hjd : j ≠ d := by
    rintro rfl
    obtain ⟨_, oj, hoj, hall⟩ := mem_ready.1 hj
    unfold waits at hw
    rw [hoj] at hw
    obtain ⟨k, hk, he⟩ := Array.any_eq_true.1 hw
    simp only [Bool.and_eq_true, beq_iff_eq] at he
    have hon := hall _ (Array.getElem_mem hk) he.1
    rw [he.2] at hon
    rcases Nat.lt_or_ge i l.size with hlt | hge
    · simp [hlt] at hun hon
      rw [hun] at hon
      cases hon
    · simp [Array.getElem?_eq_none hge] at hun
  rw [getD_set_ne true hjd]
  exact hok

/-- Each of these comes up next. -/
def AllS (P : Program) (md : Region.Mode) (ops : Array Oper) (Q : Exit → Act → World → Prop) (Sf : Array Bool → World → Prop) (n : Nat) (l : Array Bool) (a : Act) (w : World) (rs : List Nat) : Prop :=
  ∀ i ∈ rs, wpOp P ops Q i (fun a' w' => Sf (l.setIfInBounds i true) w' ∧ anyS P md ops Q Sf n (l.setIfInBounds i true) a' w') a w
theorem AllS.nil {n : Nat} {l : Array Bool} {a : Act} {w : World} : AllS P md ops Q Sf n l a w [] := fun _ h => by cases h
theorem AllS.cons {n : Nat} {l : Array Bool} {a : Act} {w : World} {i : Nat} {o : Oper} {rs : List Nat} (ho : ops[i]? = some o)
    (h : ∀ K' : Act → World → Prop, Go.RowKit.Hid (∀ a w, Sf (l.setIfInBounds i true) w → anyS P md ops Q Sf n (l.setIfInBounds i true) a w → K' a w) → if Region.wanted o (yielded ops a.tmps) = true then Oper.wp P o a w K' Q else K' (a.put o.dst undef) w)
    (hs : AllS P md ops Q Sf n l a w rs) : AllS P md ops Q Sf n l a w (i :: rs) := fun j hj => by
  rcases List.mem_cons.1 hj with rfl | hj
  · exact wpOp_step ho (fun K' hK => h K' (fun a w hS hW => hK a w ⟨hS, hW⟩))
  · exact hs j hj
theorem anyS_ready {rs : List Nat} {n : Nat} {l : Array Bool} {a : Act} {w : World} (hr : Region.ready md ops l = rs) (hne : rs ≠ []) (h : AllS P md ops Q Sf n l a w rs) : anyS P md ops Q Sf (n + 1) l a w :=
  ⟨fun h0 => absurd (hr ▸ h0) hne, hr ▸ h⟩
theorem anyS_done {l : Array Bool} {a : Act} {w : World} (hr : Region.ready md ops l = []) (h : Q .normal a w) : ∀ n, anyS P md ops Q Sf n l a w
  | 0 => ⟨hr, h⟩
  | _ + 1 => ⟨fun _ => h, by rw [hr]; simp⟩
/-- The beginning. -/
theorem wp_region_S {id : Nat} {a : Act} {w : World} (hm : P.follows .mixedOrders = true) (h : anyS P .any ops Q Sf ops.size (Array.replicate ops.size false) a w.drew) : (Code.region id ops true).wp P Q a w :=
  wp_region_any hm (wpAny_of_anyS _ _ _ _ h)
end
end Go.Proofs.YtpigccnlembfdaaGreatDoor
