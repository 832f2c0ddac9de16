/- The keys of a map's block, sorted, are the rising keys of the map that is represented. Conditions: as each theorem states. -/
import Derived.Test.YtpigccnlembfdaaDoorTake
import Derived.Sort.KeysCollected
import Derived.Sort.Walk0
namespace Go.Proofs.YtpigccnlembfdaaDoor
open Go.RowKit Go.Maps Go.MapKept
open Go.WideElems (rd rg rd_key rd_val rg_of)

theorem insert_perm (x : Lit × DataW Value) : ∀ l : List (Lit × DataW Value), (DataW.insert x l).Perm (x :: l)
  | [] => List.Perm.refl _
  | z :: r => by
    simp only [DataW.insert]
    split
    · exact List.Perm.refl _
    · exact ((insert_perm x r).cons z).trans (List.Perm.swap ..)
theorem fold_perm : ∀ l : List (Lit × DataW Value), (l.foldr DataW.insert []).Perm l
  | [] => List.Perm.refl _
  | x :: r => (insert_perm x _).trans ((fold_perm r).cons x)

theorem bl_le {x y : List UInt8} (h : Op.bytesLess x y = true) : x ≤ y := by
  rw [bytesLess_eq] at h
  have h1 : x < y := by simpa using h
  exact List.le_of_lt h1

theorem sorted_keys {P : Program} {k : TypeId} {w : World} {b n : Nat} {D : DataW Value} (hk : P.underlying k = some .string) (h : w.ownsMap P k heldR b n D) {ks : List ByteArray} (hr : Rising ks) (hm : ∀ s, (∃ v, mapOf D s = some v) ↔ s ∈ ks)
    {ss : List (List UInt8)} (hp : ss.Perm (strKeys D)) : (ss.mergeSort (fun x y => decide (x ≤ y))).map encStr = ks.map Value.string := by
  obtain ⟨es, clock, hb, hF, hsz, hD⟩ := h
  have hkeys : ∀ x ∈ es.toList, ∃ s : ByteArray, x.key = .string s ∧ s.size ≤ maxLen := fun x hx => by
    obtain ⟨y, hy⟩ := hF.reads x hx
    obtain ⟨s, e1, e2⟩ := key_inv hk (rd_key hy)
    exact ⟨s, e1, e2⟩
  have hiff := fun s v => own_iff hk hF.stamped hkeys hD s v
  have hnd : (es.toList.map (·.key)).Nodup := by
    obtain ⟨_, _, h3⟩ := hF.stamped
    exact h3
  let f : MapEntry → List UInt8 := fun x => match x.key with | .string s => s.data.toList | _ => []
  have hf : ∀ x ∈ es.toList, ∃ s : ByteArray, x.key = .string s ∧ f x = s.data.toList ∧ strOf (rg P k heldR x).1 = s.data.toList := fun x hx => by
    obtain ⟨s, e1, e2⟩ := hkeys x hx
    exact ⟨s, e1, by simp only [f, e1], by rw [rg_of (rg_str hk e1 e2)]; rfl⟩
  have hstr : (strKeys D).Perm (es.toList.map f) := by
    rw [hD]
    show (((es.toList.map (rg P k heldR)).foldr DataW.insert []).map fun p => strOf p.1).Perm _
    refine ((fold_perm _).map _).trans ?_
    rw [List.map_map]
    refine List.Perm.of_eq (List.map_congr_left fun x hx => ?_)
    obtain ⟨s, _, e2, e3⟩ := hf x hx
    rw [e2]; exact e3
  have hndf : (es.toList.map f).Nodup := by
    rw [List.Nodup, List.pairwise_map] at hnd ⊢
    refine hnd.imp_of_mem fun {x y} hx hy hne e => hne ?_
    obtain ⟨s, e1, e2, _⟩ := hf x hx
    obtain ⟨s', e1', e2', _⟩ := hf y hy
    rw [e2, e2'] at e
    rw [e1, e1', str_inj e]
  have hndk : (ks.map (fun s : ByteArray => s.data.toList)).Nodup := by
    have := rising_nodup hr
    rw [List.Nodup, List.pairwise_map]
    exact this.imp fun {x y} hne e => hne (str_inj e)
  have hperm : (es.toList.map f).Perm (ks.map (fun s : ByteArray => s.data.toList)) := by
    refine (List.perm_ext_iff_of_nodup hndf hndk).2 fun t => ?_
    rw [List.mem_map, List.mem_map]
    constructor
    · rintro ⟨x, hx, rfl⟩
      obtain ⟨s, e1, e2, _⟩ := hf x hx
      exact ⟨s, (hm s).1 ⟨x.val, (hiff s x.val).2 ⟨x, hx, e1, rfl⟩⟩, e2.symm⟩
    · rintro ⟨s, hs, rfl⟩
      obtain ⟨v, hv⟩ := (hm s).2 hs
      obtain ⟨x, hx, e1, _⟩ := (hiff s v).1 hv
      obtain ⟨s', e1', e2', _⟩ := hf x hx
      rw [e1] at e1'
      injection e1' with e1'
      subst e1'
      exact ⟨x, hx, e2'⟩
  have hpw : (ks.map (fun s : ByteArray => s.data.toList)).Pairwise (fun a b => leB a b = true) := by
    rw [List.pairwise_map, List.pairwise_iff_getElem]
    intro i j hi hj hij
    have := hr.lt (j - i - 1) i ks[i] ks[j] (List.getElem?_eq_getElem hi) (by rw [show i + (j - i - 1) + 1 = j by omega]; exact List.getElem?_eq_getElem hj)
    rw [ByteArray.toList_eq, ByteArray.toList_eq] at this
    simp only [leB, decide_eq_true_eq]
    exact bl_le this
  have tr : ∀ a b c : List UInt8, leB a b = true → leB b c = true → leB a c = true := fun a b c h1 h2 => by simp only [leB, decide_eq_true_eq] at *; exact List.le_trans h1 h2
  have tot : ∀ a b : List UInt8, (leB a b || leB b a) = true := fun a b => by simp only [leB, Bool.or_eq_true, decide_eq_true_eq]; exact List.le_total a b
  have e : ss.mergeSort leB = ks.map (fun s : ByteArray => s.data.toList) := by
    refine List.Perm.eq_of_pairwise (le := fun a b => leB a b = true) (fun a b _ _ h1 h2 => ?_) (List.pairwise_mergeSort tr tot ss) hpw ((List.mergeSort_perm ss leB).trans (hp.trans (hstr.trans hperm)))
    simp only [leB, decide_eq_true_eq] at h1 h2
    exact List.le_antisymm h1 h2
  show (ss.mergeSort leB).map encStr = _
  rw [e, List.map_map]
  refine List.map_congr_left fun s _ => ?_
  show encStr s.data.toList = .string s
  unfold encStr
  cases s
  simp
end Go.Proofs.YtpigccnlembfdaaDoor
