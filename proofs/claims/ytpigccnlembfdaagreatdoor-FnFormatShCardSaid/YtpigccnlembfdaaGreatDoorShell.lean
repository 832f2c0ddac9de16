/- What @sh makes of strings, and what a shell reads: the words come back. Plain Lean. Conditions: no byte 0 in a string. -/
import Derived.Test.YtpigccnlembfdaaGreatDoorRows
import Derived.Lib.Join
namespace Go.Proofs.YtpigccnlembfdaaGreatDoor

/-- What the escaper makes of one byte. -/
def esc1 (b : UInt8) : List UInt8 := if b = 39 then [39, 92, 39, 39] else if b = 0 then [92, 48] else [b]
def esc (l : List UInt8) : List UInt8 := l.flatMap esc1
/-- A quoted word. -/
def shq (l : List UInt8) : List UInt8 := 39 :: (esc l ++ [39])

/-- A byte more in the last word. -/
def addLast (ws : List (List UInt8)) (c : UInt8) : List (List UInt8) := ws.dropLast ++ [ws.getLastD [] ++ [c]]
theorem addLast_snoc (d : List (List UInt8)) (x : List UInt8) (c : UInt8) : addLast (d ++ [x]) c = d ++ [x ++ [c]] := by
  simp [addLast]

/-- The words that a shell reads: those so far, whether it is inside quotes. -/
def sh : List UInt8 → List (List UInt8) → Bool → Option (List (List UInt8) × Bool)
  | [], ws, b => some (ws, b)
  | c :: r, ws, b => if c = 39 then sh r ws (!b) else if b = true then sh r (addLast ws c) b else if c = 32 then sh r (ws ++ [[]]) b else if c = 92 then
      (match r with
        | [] => none
        | c' :: r' => sh r' (addLast ws c') b) else none
  termination_by l => l.length

theorem sh_cons (c : UInt8) (r : List UInt8) (ws : List (List UInt8)) (b : Bool) : sh (c :: r) ws b = if c = 39 then sh r ws (!b) else if b = true then sh r (addLast ws c) b else if c = 32 then sh r (ws ++ [[]]) b else if c = 92 then
      (match r with
        | [] => none
        | c' :: r' => sh r' (addLast ws c') b) else none := by rw [sh.eq_def]
theorem sh_quote (r : List UInt8) (ws : List (List UInt8)) (b : Bool) : sh (39 :: r) ws b = sh r ws (!b) := by
  rw [sh_cons]; simp
theorem sh_in (c : UInt8) (r : List UInt8) (ws : List (List UInt8)) (hc : c ≠ 39) : sh (c :: r) ws true = sh r (addLast ws c) true := by
  rw [sh_cons]; simp [hc]
theorem sh_blank (r : List UInt8) (ws : List (List UInt8)) : sh (32 :: r) ws false = sh r (ws ++ [[]]) false := by
  rw [sh_cons]; simp
theorem sh_back (c : UInt8) (r : List UInt8) (ws : List (List UInt8)) : sh (92 :: c :: r) ws false = sh r (addLast ws c) false := by
  rw [sh_cons]; simp

theorem sh_esc : ∀ (t r : List UInt8) (d : List (List UInt8)) (cur : List UInt8), (∀ b ∈ t, b ≠ 0) → sh (esc t ++ 39 :: r) (d ++ [cur]) true = sh r (d ++ [cur ++ t]) false
  | [], r, d, cur, _ => by
    show sh (39 :: r) (d ++ [cur]) true = _
    rw [sh_quote]; simp
  | b :: t, r, d, cur, h => by
    have ht : ∀ b ∈ t, b ≠ 0 := fun x hx => h x (List.mem_cons_of_mem _ hx)
    by_cases hb : b = 39
    · subst hb
      show sh (39 :: 92 :: 39 :: 39 :: (esc t ++ 39 :: r)) (d ++ [cur]) true = _
      rw [sh_quote, show (!true) = false from rfl, sh_back, addLast_snoc, sh_quote, show (!false) = true from rfl, sh_esc t r d _ ht]
      simp
    · have h0 : b ≠ 0 := h b (List.mem_cons_self ..)
      have e : esc (b :: t) = b :: esc t := by simp [esc, esc1, hb, h0]
      rw [e]
      show sh (b :: (esc t ++ 39 :: r)) (d ++ [cur]) true = _
      rw [sh_in b _ _ hb, addLast_snoc, sh_esc t r d _ ht]
      simp

/-- What was made of words reads as these words. -/
theorem sh_words : ∀ (l : List (List UInt8)) (d : List (List UInt8)), l ≠ [] → (∀ t ∈ l, ∀ b ∈ t, b ≠ 0) → sh (Lib.join (l.map shq) [32]) (d ++ [[]]) false = some (d ++ l, false)
  | [], _, h, _ => absurd rfl h
  | [t], d, _, h => by
    rw [List.map_cons, List.map_nil, Lib.join_one]
    show sh (39 :: (esc t ++ 39 :: [])) (d ++ [[]]) false = _
    rw [sh_quote, show (!false) = true from rfl, sh_esc t [] d [] (h t (List.mem_cons_self ..)), sh]
    simp
  | t :: u :: l, d, _, h => by
    have e : Lib.join ((t :: u :: l).map shq) [32] = 39 :: (esc t ++ 39 :: (32 :: Lib.join ((u :: l).map shq) [32])) := by
      rw [List.map_cons, Lib.join_cons, List.map_cons, Lib.join_cons]
      simp [shq, Lib.joinTail]
    rw [e, sh_quote, show (!false) = true from rfl, sh_esc t _ d [] (h t (List.mem_cons_self ..)), sh_blank]
    have := sh_words (u :: l) (d ++ [t]) (by simp) (fun t ht => h t (List.mem_cons_of_mem _ ht))
    rw [List.nil_append, this]
    simp

theorem esc_length : ∀ t : List UInt8, (esc t).length ≤ 4 * t.length
  | [] => by simp [esc]
  | b :: t => by
    have h := esc_length t
    have e : esc (b :: t) = esc1 b ++ esc t := by simp [esc]
    have h1 : (esc1 b).length ≤ 4 := by
      unfold esc1
      repeat' split
      all_goals simp
    rw [e, List.length_append, List.length_cons]; omega
theorem shq_length (t : List UInt8) : (shq t).length ≤ 4 * t.length + 2 := by
  have := esc_length t
  simp only [shq, List.length_cons, List.length_append, List.length_nil]; omega
theorem join_length : ∀ (l : List (List UInt8)) (m : Nat), (∀ t ∈ l, t.length ≤ m) → (Lib.join l [32]).length ≤ l.length * (m + 1)
  | [], m, _ => by simp [Lib.join_nil]
  | [t], m, h => by
    have := h t (List.mem_cons_self ..)
    rw [Lib.join_one]; simp; omega
  | t :: u :: l, m, h => by
    have h1 := h t (List.mem_cons_self ..)
    have h2 := join_length (u :: l) m (fun t ht => h t (List.mem_cons_of_mem _ ht))
    have e : Lib.join (t :: u :: l) [32] = t ++ 32 :: Lib.join (u :: l) [32] := by
      rw [Lib.join_cons, Lib.join_cons]
      simp [Lib.joinTail]
    rw [e, List.length_append, List.length_cons]
    simp only [List.length_cons, Nat.add_mul] at h2 ⊢
    omega
end Go.Proofs.YtpigccnlembfdaaGreatDoor
