/-
  FnDifferExactlyTheChangedParties: the plain part: the changed parties stand in the list in their order; and what the copies are to one another.
-/
import Derived.Test.Qxb6606129aDiffer
import Derived.Test.Qxb6606129aPair
import Derived.Test.Qxb6606129aDomain
namespace Go.Proofs.Qxb6606129a
open Go.RowKit

theorem inBlk_split (d : Nat → Nat → Bool) (k q : Nat) : ∀ m, ∃ suf, inBlk d k (q + m) = inBlk d k q ++ suf ∧ ∀ x ∈ suf, (k : Int) * 64 + (q : Int) ≤ x
  | 0 => ⟨[], by simp, by simp⟩
  | m + 1 => by
    obtain ⟨suf, h1, h2⟩ := inBlk_split d k q m
    refine ⟨suf ++ if d k (q + m) = true then [(k : Int) * 64 + ((q + m : Nat) : Int)] else [], ?_, ?_⟩
    · show inBlk d k (q + m) ++ _ = _
      rw [h1, List.append_assoc]
      rfl
    · intro x hx
      rcases List.mem_append.1 hx with h | h
      · exact h2 x h
      · split at h
        · simp at h; omega
        · simp at h

theorem inBlk_ge (d : Nat → Nat → Bool) (k i : Nat) : ∀ x ∈ inBlk d k i, (k : Int) * 64 ≤ x := by
  obtain ⟨suf, h1, h2⟩ := inBlk_split d k 0 i
  intro x hx
  rw [Nat.zero_add] at h1
  rw [h1] at hx
  have := h2 x (by simpa [inBlk] using hx)
  omega

theorem upTo_split (d : Nat → Nat → Bool) (k : Nat) : ∀ m, ∃ suf, upTo d (k + m) = upTo d k ++ suf ∧ ∀ x ∈ suf, (k : Int) * 64 ≤ x
  | 0 => ⟨[], by simp, by simp⟩
  | m + 1 => by
    obtain ⟨suf, h1, h2⟩ := upTo_split d k m
    refine ⟨suf ++ inBlk d (k + m) 64, ?_, ?_⟩
    · show upTo d (k + m) ++ _ = _
      rw [h1, List.append_assoc]
      rfl
    · intro x hx
      rcases List.mem_append.1 hx with h | h
      · exact h2 x h
      · have := inBlk_ge d (k + m) 64 x h
        omega

/-- Where the whole list is parted at party q of block k. -/
theorem parted (d : Nat → Nat → Bool) {n k q : Nat} (hk : k < n) (hq : q < 64) :
    ∃ R, upTo d n = (upTo d k ++ inBlk d k q) ++ ((if d k q = true then [(k : Int) * 64 + (q : Int)] else []) ++ R) ∧ ∀ x ∈ R, (k : Int) * 64 + (q : Int) + 1 ≤ x := by
  obtain ⟨s1, h1, h2⟩ := upTo_split d (k + 1) (n - (k + 1))
  obtain ⟨s2, g1, g2⟩ := inBlk_split d k (q + 1) (64 - (q + 1))
  rw [show k + 1 + (n - (k + 1)) = n by omega] at h1
  rw [show q + 1 + (64 - (q + 1)) = 64 by omega] at g1
  refine ⟨s2 ++ s1, ?_, ?_⟩
  · rw [h1]
    show (upTo d k ++ inBlk d k 64) ++ s1 = _
    rw [g1]
    show (upTo d k ++ ((inBlk d k q ++ _) ++ s2)) ++ s1 = _
    simp
  · intro x hx
    rcases List.mem_append.1 hx with h | h
    · have := g2 x h; omega
    · have := h2 x h; omega

theorem at_hit (d : Nat → Nat → Bool) {n k q : Nat} (hk : k < n) (hq : q < 64) (hd : d k q = true) :
    (upTo d k ++ inBlk d k q).length < (upTo d n).length ∧ (upTo d n).getD (upTo d k ++ inBlk d k q).length 0 = (k : Int) * 64 + (q : Int) := by
  obtain ⟨R, h1, _⟩ := parted d hk hq
  rw [h1, hd]
  generalize upTo d k ++ inBlk d k q = pre
  refine ⟨by simp, ?_⟩
  simp [List.getD]

theorem at_miss (d : Nat → Nat → Bool) {n k q : Nat} (hk : k < n) (hq : q < 64) (hd : d k q = false) (hj : (upTo d k ++ inBlk d k q).length < (upTo d n).length) :
    (upTo d n).getD (upTo d k ++ inBlk d k q).length 0 ≠ (k : Int) * 64 + (q : Int) := by
  obtain ⟨R, h1, h2⟩ := parted d hk hq
  rw [hd] at h1
  simp only [Bool.false_eq_true, if_false, List.nil_append] at h1
  rw [h1] at hj ⊢
  generalize upTo d k ++ inBlk d k q = pre at *
  have hl : 0 < R.length := by simpa using hj
  have e : (pre ++ R).getD pre.length 0 = R[0] := by simp [List.getD, hl]
  rw [e]
  have := h2 R[0] (List.getElem_mem hl)
  omega

theorem next_hit (d : Nat → Nat → Bool) {k q : Nat} (hd : d k q = true) : (upTo d k ++ inBlk d k (q + 1)).length = (upTo d k ++ inBlk d k q).length + 1 := by
  show (upTo d k ++ (inBlk d k q ++ _)).length = _
  rw [hd]
  simp
  omega

theorem next_miss (d : Nat → Nat → Bool) {k q : Nat} (hd : d k q = false) : (upTo d k ++ inBlk d k (q + 1)).length = (upTo d k ++ inBlk d k q).length := by
  show (upTo d k ++ (inBlk d k q ++ _)).length = _
  rw [hd]
  simp

section
variable {w w1 w2 : World} {a1 a2 : Option Addr} {na nb : Nat} {Pa Pb P' Pc : Nat → Option Addr} {La Lb Lc : Nat → Nat → Nat} {Za Zb Zc : Nat → Nat → Nat → Int}

theorem Paired.blocks (h : Paired w1.heap.size w2 a2 nb na P' Pb Pc La Lb Lc Za Zb Zc) (ht : Twins w1 a1 na Pa P' La Za) (hb : Below w1.heap.size w1 w2) : Blocks w2 a2 nb Pc Lc Zc := by
  refine ⟨h.1, fun k hk y hy => ?_⟩
  rcases h.2 k hk with ⟨hn, e1, e2, e3⟩ | ⟨ht2, e2, e3⟩
  · rw [e2, e3]
    rw [e1] at hy
    exact ((ht.2 k hn).2.2 y hy).block.below hb (Nat.le_refl _)
  · rw [e2, e3]
    exact (ht2.2.2 y hy).block

/-- Nil for nil. -/
theorem Paired.both (h : Paired w1.heap.size w2 a2 nb na P' Pb Pc La Lb Lc Za Zb Zc) (ht : Twins w1 a1 na Pa P' La Za) (hbo : Both na Pa Pb) (hn : na ≤ nb) {k : Nat} (hk : k < na) : P' k = none ↔ Pc k = none := by
  have t := ht.2 k hk
  have hp : P' k = none ↔ Pa k = none := ⟨fun c => Classical.byContradiction fun e => t.2.1 e c, t.1⟩
  rcases h.2 k (by omega) with ⟨_, e1, _⟩ | ⟨t2, _⟩
  · rw [e1]
  · have hp2 : Pc k = none ↔ Pb k = none := ⟨fun c => Classical.byContradiction fun e => t2.2.1 e c, t2.1⟩
    rw [hp, hp2]
    exact hbo k hk

theorem Paired.apart (h : Paired w1.heap.size w2 a2 nb na P' Pb Pc La Lb Lc Za Zb Zc) (ht : Twins w1 a1 na Pa P' La Za) (hb : Below w1.heap.size w1 w2) (hbo : Both na Pa Pb) (hn : na ≤ nb) {k : Nat} (hk : k < na) :
    P' k = Pc k ∨ Apart w2 (P' k) (Pc k) := by
  have hbt := h.both ht hbo hn hk
  rcases h.2 k (by omega) with ⟨_, e1, _⟩ | ⟨t2, _⟩
  · exact .inl e1.symm
  · cases hp : P' k with
    | none => exact .inl (hbt.1 hp).symm
    | some y =>
      have hne : Pc k ≠ none := fun c => by rw [hbt.2 c] at hp; cases hp
      obtain ⟨z, hz⟩ := Option.ne_none_iff_exists'.1 hne
      obtain ⟨⟨_, p1, _⟩, _⟩ := (ht.2 k hk).2.2 y hp
      obtain ⟨⟨hB, p2, _⟩, _⟩ := t2.2.2 z hz
      refine .inr ⟨y, z, rfl, hz, ?_, p1.below hb (Nat.le_refl _), p2⟩
      intro c
      have := p1.lt
      rw [c] at this
      omega

/-- What the law reckons is what differ lists: both not nil. -/
theorem Paired.dif (h : Paired w1.heap.size w2 a2 nb na P' Pb Pc La Lb Lc Za Zb Zc) (ht : Twins w1 a1 na Pa P' La Za) (hn : na ≤ nb) {k q : Nat} (hk : k < na) (hs : P' k ≠ none) :
    (!eqL (La k q) (Za k q) (Lc k q) (Zc k q)) = dif P' Pc La Lc Za Zc k q := by
  unfold Qxb6606129a.dif
  by_cases e : P' k = Pc k
  · have : eqL (La k q) (Za k q) (Lc k q) (Zc k q) = true := by
      rcases h.2 k (by omega) with ⟨_, _, e2, e3⟩ | ⟨t2, e2, e3⟩
      · rw [e2, e3]
        exact eqL_yes (fun _ _ => rfl)
      · obtain ⟨y, hy⟩ := Option.ne_none_iff_exists'.1 hs
        obtain ⟨⟨_, p1, _⟩, _⟩ := (ht.2 k hk).2.2 y hy
        obtain ⟨⟨hB, _⟩, _⟩ := t2.2.2 y (by rw [← e]; exact hy)
        have := p1.lt
        omega
    simp [e, this]
  · simp [e]
end
end Go.Proofs.Qxb6606129a
