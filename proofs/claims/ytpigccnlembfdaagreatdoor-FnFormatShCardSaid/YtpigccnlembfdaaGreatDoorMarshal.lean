/- The walk of jsonMarshal at what encode's walks cover. Conditions: as each theorem states. -/
import Derived.Test.YtpigccnlembfdaaGreatDoorEncode
namespace Go.Proofs.YtpigccnlembfdaaGreatDoor
open Go.RowKit Go.Shelf

set_option maxRecDepth 100000 in
theorem enc_zero (x : Value) : Tryz.zeroCells94.setIfInBounds 0 x = (x :: List.replicate 64 (Value.int .u8 0)).toArray := by kernel_rfl
theorem fresh_made (w : World) : Fresh ((w.alloc (.cells #[.pointer none, .slice none 0 0] 146)).alloc (.cells (Tryz.zeroCells94.setIfInBounds 0 (.iface 144 (.pointer (some ⟨w.heap.size, 0, none⟩)))) 94)) w.heap.size w.heap.size (w.heap.size + 1) := by
  rw [enc_zero]
  obtain ⟨o, ho⟩ : ∃ o, o = Obj.cells (Value.iface 144 (.pointer (some ⟨w.heap.size, 0, none⟩)) :: List.replicate 64 (Value.int .u8 0)).toArray 94 := ⟨_, rfl⟩
  refine ⟨Or.inl ⟨Nat.le_refl _, .slice none 0 0, ?_, World.ownsRow_nil _ _ _ _, by simp [Value.ownBlock]⟩, ?_, by simp; omega, by omega, by omega⟩
  · rw [Lib.alloc_old _ _ _ (by simp)]
    exact heap_alloc_new w _
  · have := heap_alloc_new (w.alloc (.cells #[.pointer none, .slice none 0 0] 146)) (Obj.cells (Value.iface 144 (.pointer (some ⟨w.heap.size, 0, none⟩)) :: List.replicate 64 (Value.int .u8 0)).toArray 94)
    rw [World.size_alloc] at this
    exact this
set_option maxRecDepth 100000 in
set_option maxHeartbeats 2000000 in
theorem jsonMarshal_of (w : World) (v : Value) (l : List UInt8) (hv : ∀ (W : World) (B b E : Nat), Fresh W B b E → Calls Tryz.prog 49 #[.pointer (some ⟨E, 0, none⟩), v] W (EncPost B b l W)) :
    Calls Tryz.prog 79 #[v] w (TextIs l w) := by
  have HV := Lib.hid hv
  clear hv
  go_enter Tryz.func79, Tryz.ntmps79
  go_wp2_with fail
  refine (HV.out _ _ _ _ (fresh_made w)).mono ?_
  rintro e w2 ⟨rfl, hb2, hbel⟩
  have hB : Below w.heap.size w w2 := (((Below.refl w.heap.size w).alloc (Nat.le_refl _) _).alloc (by simp) _).trans hbel
  have HBS := Lib.hid (builderString_any w2 w.heap.size w.heap.size l hb2 hB.size)
  have HB := Lib.hid hB
  clear hb2 hbel hB
  go_wp2_with fail
  refine HBS.out.mono ?_
  rintro e w3 ⟨rfl, hb3⟩
  go_wp2_with fail
  go_ret
  exact ⟨rfl, HB.out.trans hb3⟩
/-- The JSON texts of scalars. -/
theorem marshal_nil (w : World) : Calls Tryz.prog 79 #[.nilIface] w (TextIs [110, 117, 108, 108] w) := jsonMarshal_of w _ _ fun W B b E h => encode_nil W B b E h
theorem marshal_bool (w : World) (x : Bool) : Calls Tryz.prog 79 #[.iface 4 (.bool x)] w (TextIs (if x then [116, 114, 117, 101] else [102, 97, 108, 115, 101]) w) := jsonMarshal_of w _ _ fun W B b E h => by
  cases x
  · exact encode_false W B b E h
  · exact encode_true W B b E h
theorem marshal_int (w : World) (x : Int) (hx0 : -9223372036854775808 < x) (hx1 : x < 9223372036854775808) : Calls Tryz.prog 79 #[.iface 3 (.int .i64 x)] w (TextIs (Lib.itoa x) w) := jsonMarshal_of w _ _ fun W B b E h => encode_int W B b E x h hx0 hx1
/-- The text of a half: half is odd. -/
def halfText (h : Int) : List UInt8 := (if h < 0 then [45] else []) ++ (wholeD (h.natAbs / 2) ++ [46, 53])
theorem marshal_half (w : World) (h : Int) (ho : h % 2 = 1) (h1 : -9007199254740992 < h) (h2 : h < 9007199254740992) : Calls Tryz.prog 79 #[.iface 65 (.float .f64 (hbits h))] w (TextIs (halfText h) w) := jsonMarshal_of w _ _ fun W B b E hf => by
  obtain ⟨m, hm⟩ : ∃ m, m = h.natAbs := ⟨_, rfl⟩
  have hm0 : m ≠ 0 := by omega
  obtain ⟨b1, b2, b3⟩ := sig_bounds m hm0 (by omega)
  have hN : m = 2 * (m / 2) + 1 := by omega
  have hk1 : 1 ≤ 53 - m.log2 := by omega
  have hs : sig m = (2 * (m / 2) + 1) * 2 ^ (53 - m.log2 - 1) := by
    rw [← hN]; unfold sig; rw [Nat.shiftLeft_eq]; congr 2; omega
  have hw := halfW_of (decide (h < 0)) (sig m) (53 - m.log2) b1 b2 hk1 (by omega)
  have e : fbits (decide (h < 0)) (sig m) (-((53 - m.log2 : Nat) : Int)) = hbits h := by
    unfold hbits; rw [← hm]; congr 1; omega
  rw [e] at hw
  have := encode_half W B b E (hbits h) (m / 2) (53 - m.log2) (sig m) _ hf (by omega) hk1 (by omega) hs hw
  have e2 : ((if (decide (h < 0)).toNat = 0 then [] else [45]) ++ (wholeD (m / 2) ++ [46, 53])) = halfText h := by
    unfold halfText; rw [hm]
    by_cases h0 : h < 0 <;> simp [h0]
  rw [← e2]
  exact this
end Go.Proofs.YtpigccnlembfdaaGreatDoor
