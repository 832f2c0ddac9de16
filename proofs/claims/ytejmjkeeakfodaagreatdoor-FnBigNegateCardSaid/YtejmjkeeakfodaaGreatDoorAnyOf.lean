/- The walks of zzIndexAny and zzContainsAny at a numeral and the signs of a float. Conditions: the string is of digits and a minus. -/
import Derived.Test.YtejmjkeeakfodaaGreatDoorSpecBig2
import Derived.Laws.RangeString
namespace Go.Proofs.YtejmjkeeakfodaaGreatDoor
open Go.RowKit

/-- An iterator over a string is moved. -/
def World.iterTo (w : World) (b : Nat) (s : ByteArray) (pos : Nat) : World := { w with heap := w.heap.setIfInBounds b (.stringIter s pos) }
theorem iterTo_size (w : World) (b : Nat) (s : ByteArray) (pos : Nat) : (World.iterTo w b s pos).heap.size = w.heap.size := by simp [World.iterTo]
theorem iterTo_at {w : World} {b : Nat} {s : ByteArray} {p pos : Nat} (h : w.heap[b]? = some (.stringIter s p)) : (World.iterTo w b s pos).heap[b]? = some (.stringIter s pos) := by
  have := (Array.getElem?_eq_some_iff.1 h).1
  simp [World.iterTo, this]
theorem iterTo_below {w0 w : World} {b : Nat} {s : ByteArray} {pos : Nat} (h : Below w0.heap.size w0 w) (hb : w0.heap.size ≤ b) : Below w0.heap.size w0 (World.iterTo w b s pos) :=
  ⟨h.os, h.tape, h.output, by rw [iterTo_size]; exact h.size, fun i hi => by
    rw [← h.block i hi]
    simp only [World.iterTo]
    rw [Array.getElem?_setIfInBounds_ne (by omega)]⟩
theorem run_next_at {P : Program} (w : World) (b : Nat) (s : ByteArray) (pos : Nat) (ty : TypeId) (hb : w.heap[b]? = some (.stringIter s pos)) (h : pos < s.size) (ha : (s[pos]'h).toNat < 128) :
    (Instr.next (.pointer (some ⟨b, 0, none⟩)) true ty).run P w = .ok (.tuple #[.bool true, .int .i64 pos, .int .i32 (s[pos]'h).toNat]) (World.iterTo w b s (pos + 1)) := by
  simp only [Instr.next, getObj, setObj, Sem.run_bind, Sem.run, hb, Result.andThen, h, if_true, decode_ascii s pos h ha]
  simp [goInt, World.iterTo]
theorem run_next_stop {P : Program} (w : World) (b : Nat) (s : ByteArray) (pos : Nat) (ty : TypeId) (hb : w.heap[b]? = some (.stringIter s pos)) (h : ¬ pos < s.size) :
    (Instr.next (.pointer (some ⟨b, 0, none⟩)) true ty).run P w = .ok (.tuple #[.bool false]) w := by
  simp [Instr.next, getObj, Sem.run, hb, h]

set_option maxRecDepth 100000 in
set_option maxHeartbeats 1000000 in
theorem indexAny_none (w : World) (s : ByteArray) (hs : ∀ i (h : i < s.size), (s[i]'h).toNat < 58 ∧ (s[i]'h).toNat ≠ 46) :
    Calls Tryz.prog 55 #[.string s, .string ⟨#[46, 101, 69]⟩] w (SaysB w (.int .i64 (-1))) := by
  have HS := Lib.hid hs
  clear hs
  go_enter Tryz.func55, Tryz.ntmps55
  go_wp2_with fail
  go_loopw [5] (fun u wr => ∃ pos : Nat, Hid (Below w.heap.size w wr ∧ wr.heap[w.heap.size]? = some (.stringIter s pos)) ∧ pos ≤ s.size) (fun _ wr => s.size - wr.iterPos w.heap.size)
  case atStart => exact ⟨0, Lib.hid ⟨(Below.refl _ _).alloc (Nat.le_refl _) _, heap_alloc_new w _⟩, Nat.zero_le _⟩
  case round =>
    obtain ⟨pos, HW, hpos⟩ := hrel
    by_cases hlt : pos < s.size
    · obtain ⟨h58, h46⟩ := HS.out pos hlt
      have hnx : ∀ ty, (Instr.next (.pointer (some ⟨w.heap.size, 0, none⟩)) true ty).run Tryz.prog wr = _ := fun ty => run_next_at wr w.heap.size s pos ty HW.out.2 hlt (by omega)
      obtain ⟨c, hc⟩ : ∃ c : Nat, (s[pos]'hlt).toNat = c := ⟨_, rfl⟩
      rw [hc] at h58 h46
      have q1 : ((c : Int) == 46) = false := by rw [beq_eq_false_iff_ne]; omega
      have q2 : ((c : Int) == 101) = false := by rw [beq_eq_false_iff_ne]; omega
      have q3 : ((c : Int) == 69) = false := by rw [beq_eq_false_iff_ne]; omega
      clear h58 h46
      obtain ⟨w2, hw2⟩ : ∃ w2, w2 = World.iterTo wr w.heap.size s (pos + 1) := ⟨_, rfl⟩
      rw [← hw2] at hnx
      have HW2 : Hid (Below w.heap.size w w2 ∧ w2.heap[w.heap.size]? = some (.stringIter s (pos + 1))) := Lib.hid (by rw [hw2]; exact ⟨iterTo_below HW.out.1 (Nat.le_refl _), iterTo_at HW.out.2⟩)
      have HWW := Lib.hid hw2
      have n0 : ∀ ty, (Instr.next (.pointer (some ⟨w2.heap.size, 0, none⟩)) true ty).run Tryz.prog (w2.iter ⟨#[46, 101, 69]⟩ 0) = .ok (.tuple #[.bool true, .int .i64 0, .int .i32 46]) (w2.iter ⟨#[46, 101, 69]⟩ 1) := fun ty => run_next_ascii w2 ⟨#[46, 101, 69]⟩ 0 ty (by decide) (by decide)
      have n1 : ∀ ty, (Instr.next (.pointer (some ⟨w2.heap.size, 0, none⟩)) true ty).run Tryz.prog (w2.iter ⟨#[46, 101, 69]⟩ 1) = .ok (.tuple #[.bool true, .int .i64 1, .int .i32 101]) (w2.iter ⟨#[46, 101, 69]⟩ 2) := fun ty => run_next_ascii w2 ⟨#[46, 101, 69]⟩ 1 ty (by decide) (by decide)
      have n2 : ∀ ty, (Instr.next (.pointer (some ⟨w2.heap.size, 0, none⟩)) true ty).run Tryz.prog (w2.iter ⟨#[46, 101, 69]⟩ 2) = .ok (.tuple #[.bool true, .int .i64 2, .int .i32 69]) (w2.iter ⟨#[46, 101, 69]⟩ 3) := fun ty => run_next_ascii w2 ⟨#[46, 101, 69]⟩ 2 ty (by decide) (by decide)
      have n3 : ∀ ty, (Instr.next (.pointer (some ⟨w2.heap.size, 0, none⟩)) true ty).run Tryz.prog (w2.iter ⟨#[46, 101, 69]⟩ 3) = .ok (.tuple #[.bool false]) (w2.iter ⟨#[46, 101, 69]⟩ 3) := fun ty => run_next_end w2 ⟨#[46, 101, 69]⟩ 3 ty (by decide)
      clear hw2
      go_wp2_with fail
      refine wp_loop_rounds 4 ?_
      rw [rounds_succ]
      go_wp2_with fail
      rw [rounds_succ]
      go_wp2_with fail
      rw [rounds_succ]
      go_wp2_with fail
      rw [rounds_succ]
      go_wp2_with fail
      have HX : Hid (Below w.heap.size w (w2.iter ⟨#[46, 101, 69]⟩ 3) ∧ (w2.iter ⟨#[46, 101, 69]⟩ 3).heap[w.heap.size]? = some (.stringIter s (pos + 1))) := Lib.hid ⟨HW2.out.1.alloc HW2.out.1.size _, by
        have hsz : w.heap.size < w2.heap.size := (Array.getElem?_eq_some_iff.1 HW2.out.2).1
        rw [← HW2.out.2]
        show (w2.alloc _).heap[_]? = _
        simp only [World.alloc]
        rw [Array.getElem?_push_lt hsz, Array.getElem?_eq_getElem hsz]⟩
      go_roundw
      case rel => exact ⟨pos + 1, HX, by omega⟩
      case measure =>
        rw [iterPos_of HX.out.2, iterPos_of HW.out.2]
        omega
    · have hnx : ∀ ty, (Instr.next (.pointer (some ⟨w.heap.size, 0, none⟩)) true ty).run Tryz.prog wr = _ := fun ty => run_next_stop wr w.heap.size s pos ty HW.out.2 hlt
      go_wp2_with fail
      go_ret
      exact ⟨rfl, HW.out.1⟩
theorem containsAny_none (w : World) (s : ByteArray) (hs : ∀ i (h : i < s.size), (s[i]'h).toNat < 58 ∧ (s[i]'h).toNat ≠ 46) :
    Calls Tryz.prog 44 #[.string s, .string ⟨#[46, 101, 69]⟩] w (SaysB w (.bool false)) := by
  have HI := Lib.hid (indexAny_none w s hs)
  clear hs
  go_enter Tryz.func44, Tryz.ntmps44
  go_wp2_with (go_at_call 55; refine HI.out.mono ?_; rintro e w2 ⟨rfl, hb2⟩)
  go_ret
  exact ⟨rfl, hb2⟩
end Go.Proofs.YtejmjkeeakfodaaGreatDoor
