/-
  THE PLAIN PART of FnSplitTermsInvertsEscapedJoin, and what the loop keeps.
-/
import Derived.Test.Qxb6606183aEscape
import Derived.Test.Qxb6606183aSpend
import Derived.Lib.AppendStr
namespace Go.Proofs.Qxb6606183a
open Go.RowKit

/-- The first k strings, escaped and joined. -/
def joinTo (f : Nat → ByteArray) : Nat → List UInt8
  | 0 => []
  | k + 1 => (if k = 0 then [] else joinTo f k ++ [44]) ++ escL (toL (f k))

/-- The first k strings. -/
def upTo (f : Nat → ByteArray) : Nat → List (List UInt8)
  | 0 => []
  | k + 1 => upTo f k ++ [toL (f k)]

theorem joinL_snoc : ∀ (ts : List (List UInt8)) (t : List UInt8), ts ≠ [] → joinL (ts ++ [t]) = joinL ts ++ 44 :: escL t
  | [], _, h => absurd rfl h
  | [u], t, _ => rfl
  | u :: v :: ts, t, _ => by
    show escL u ++ 44 :: joinL (v :: ts ++ [t]) = (escL u ++ 44 :: joinL (v :: ts)) ++ 44 :: escL t
    rw [joinL_snoc (v :: ts) t (by simp)]
    simp

theorem upTo_ne (f : Nat → ByteArray) (k : Nat) : upTo f (k + 1) ≠ [] := by simp [upTo]

theorem joinTo_eq (f : Nat → ByteArray) : ∀ k, joinTo f (k + 1) = joinL (upTo f (k + 1))
  | 0 => by simp [joinTo, upTo, joinL]
  | k + 1 => by
    show (if k + 1 = 0 then [] else joinTo f (k + 1) ++ [44]) ++ escL (toL (f (k + 1))) = joinL (upTo f (k + 1) ++ [toL (f (k + 1))])
    rw [if_neg (by omega), joinL_snoc _ _ (upTo_ne f k), joinTo_eq f k]
    simp

theorem upTo_length (f : Nat → ByteArray) : ∀ k, (upTo f k).length = k
  | 0 => rfl
  | k + 1 => by simp [upTo, upTo_length f k]

theorem upTo_get (f : Nat → ByteArray) : ∀ k i, i < k → (upTo f k)[i]? = some (toL (f i))
  | 0, _, h => absurd h (Nat.not_lt_zero _)
  | k + 1, i, h => by
    unfold upTo
    by_cases e : i = k
    · subst e
      rw [List.getElem?_append_right (by rw [upTo_length]; omega), upTo_length]
      simp
    · rw [List.getElem?_append_left (by rw [upTo_length]; omega)]
      exact upTo_get f k i (by omega)

theorem joinTo_length (f : Nat → ByteArray) : ∀ k, (joinTo f k).length ≤ 2 * sumTo f k + k
  | 0 => Nat.le_refl _
  | k + 1 => by
    have h1 := joinTo_length f k
    have h2 := escL_length (toL (f k))
    rw [toL_length] at h2
    simp only [joinTo, sumTo, List.length_append]
    split
    · simp; omega
    · simp; omega

theorem sumTo_mono (f : Nat → ByteArray) : ∀ {k n}, k ≤ n → sumTo f k ≤ sumTo f n := by
  intro k n h
  induction h with
  | refl => exact Nat.le_refl _
  | step _ ih => exact Nat.le_trans ih (Nat.le_add_right _ _)

theorem joinTo_le (f : Nat → ByteArray) {k n : Nat} (hk : k ≤ n) (hn : n ≤ 131072) (hs : sumTo f n ≤ 1048576) : (joinTo f k).length ≤ 2228224 := by
  have h1 := joinTo_length f k
  have h2 := sumTo_mono f hk
  omega

/-- THE LAW: splitting the joined string gives the escaped terms. -/
theorem terms_join (f : Nat → ByteArray) (n : Nat) (hn : 0 < n) : (terms ⟨(joinTo f n).toArray⟩).length = n ∧ ∀ i, i < n → (terms ⟨(joinTo f n).toArray⟩).getD i ByteArray.empty = escB (f i) := by
  have hj : joinTo f n = joinL (upTo f n) := by
    obtain ⟨m, rfl⟩ : ∃ m, n = m + 1 := ⟨n - 1, by omega⟩
    exact joinTo_eq f m
  have ht : toL (⟨(joinTo f n).toArray⟩ : ByteArray) = joinL (upTo f n) := by simp [toL, hj]
  have hs : split (joinL (upTo f n)) = (upTo f n).map escL := by
    obtain ⟨m, rfl⟩ : ∃ m, n = m + 1 := ⟨n - 1, by omega⟩
    exact split_join _ (upTo_ne f m)
  have hT : terms ⟨(joinTo f n).toArray⟩ = ((upTo f n).map escL).map fun l => ⟨l.toArray⟩ := by
    unfold terms
    rw [ht, hs]
  rw [hT]
  refine ⟨by simp [upTo_length], fun i hi => ?_⟩
  rw [List.getD_eq_getElem?_getD, List.getElem?_map, List.getElem?_map, upTo_get f n i hi]
  rfl

theorem HoldsB.below {w w' : World} {B : Nat} {v : Value} {l : List UInt8} (h : HoldsB w B v l) (hb : Below w.heap.size w w') : HoldsB w' B v l := by
  obtain ⟨h1, h2⟩ := h
  refine ⟨h1, ?_⟩
  rcases h2 with ⟨hv, hl⟩ | ⟨g, cap, cur, hv, hg, hh, r⟩
  · exact Or.inl ⟨hv, hl⟩
  · exact Or.inr ⟨g, cap, cur, hv, hg, by rw [hb.block g (Array.getElem?_eq_some_iff.1 hh).1]; exact hh, r⟩

theorem strCells_eq (s : ByteArray) : Lib.strCells s = cellsB (toL s) := rfl

/-- Behind an append of a string. -/
theorem HoldsB.more {wr w1 : World} {B : Nat} {v v' : Value} {l : List UInt8} {s : ByteArray} (hown : HoldsB wr B v l) (hB2 : B ≤ wr.heap.size)
    (hown' : w1.ownsRow B 5 1 v' (l.length + s.size) (cellsB l ++ Lib.strCells s)) (hg : wr.grownBy w1 v.ownBlock) : HoldsB w1 B v' (l ++ toL s) ∧ Below B wr w1 := by
  have hb1 : Below B wr w1 := (Below.refl B wr).grown hg hB2 (fun j hj => (hown.lt j hj).1)
  refine ⟨?_, hb1⟩
  unfold HoldsB
  rw [cellsB_append, List.length_append, toL_length]
  exact hown'

/-- What the list of escaped terms shows behind k rounds. -/
def escd (f : Nat → ByteArray) (k : Nat) : Nat → Value := fun i => if i < k then .string (escB (f i)) else .string ByteArray.empty

theorem escd_step {wr : World} {g n k : Nat} {f : Nat → ByteArray} (h : Own wr g n (escd f k)) (hk : k < n) : Own (wr.setCell ⟨g, k, none⟩ (.string (escB (f k)))) g n (escd f (k + 1)) := by
  refine (h.set k hk _).congr (fun i _ => ?_)
  unfold escd
  by_cases e : i = k
  · subst e; simp
  · by_cases l : i < k
    · simp [e, l, Nat.lt_succ_of_lt l]
    · simp [e, l, show ¬ i < k + 1 by omega]

theorem escd_at (f : Nat → ByteArray) (k : Nat) : escd f (k + 1) k = .string (escB (f k)) := by simp [escd]
theorem escd_new (f : Nat → ByteArray) (k : Nat) : escd f k k = .string ByteArray.empty := by simp [escd]
theorem escB_size (t : ByteArray) : (escB t).size ≤ 2 * t.size := by
  have h := escL_length (toL t)
  rw [toL_length] at h
  have e : (escB t).size = (escL (toL t)).length := by rw [← toL_escB, toL_length]
  omega
end Go.Proofs.Qxb6606183a
