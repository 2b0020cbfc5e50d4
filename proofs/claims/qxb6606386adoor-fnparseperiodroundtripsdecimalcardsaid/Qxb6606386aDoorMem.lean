/-
  WORDS FOR MEMORY, and what holds of them: no program in sight.
  'Shows w a n f': the slice that begins at a shows the n cells f 0, f 1, .. · 'Own w g n f': block g, laid by the call itself, shows f and may be written.
-/
import Derived.WalkKit
import Derived.WalkLawsBesides
import Derived.WalkSpells
import Derived.Below
namespace Go.Proofs.Qxb6606386aDoor
open Go.RowKit

def Shows (w : World) (a : Option Addr) (n : Nat) (f : Nat → Value) : Prop :=
  ∀ i, i < n → ∃ x, a = some x ∧ x.block < w.heap.size ∧ w.cell? (x.add i) = some (f i)

def Own (w : World) (g n : Nat) (f : Nat → Value) : Prop :=
  g < w.heap.size ∧ ∀ i, i < n → w.cell? ⟨g, i, none⟩ = some (f i) ∧ w.frozen? ⟨g, i, none⟩ = false

theorem add_block (x : Addr) (i : Nat) : (x.add i).block = x.block := by
  unfold Addr.add
  split <;> rfl

theorem Shows.none {w : World} {n : Nat} {f : Nat → Value} (h : Shows w none n f) : n = 0 := by
  by_cases h0 : 0 < n
  · obtain ⟨x, hx, _⟩ := h 0 h0
    cases hx
  · omega

theorem Shows.some {w : World} {x : Addr} {n : Nat} {f : Nat → Value} (h : Shows w (some x) n f) : ∀ i, i < n → x.block < w.heap.size ∧ w.cell? (x.add i) = some (f i) := by
  intro i hi
  obtain ⟨y, hy, h1, h2⟩ := h i hi
  cases hy
  exact ⟨h1, h2⟩

theorem Shows.zero {w : World} {a : Option Addr} {f : Nat → Value} : Shows w a 0 f := fun _ hi => absurd hi (Nat.not_lt_zero _)

theorem Shows.below {w w' : World} {B : Nat} {a : Option Addr} {n : Nat} {f : Nat → Value} (h : Shows w a n f) (hb : Below B w w') (hB : w.heap.size ≤ B) : Shows w' a n f := by
  intro i hi
  obtain ⟨x, hx, h1, h2⟩ := h i hi
  exact ⟨x, hx, Nat.lt_of_lt_of_le h1 hb.size, by rw [hb.cell (by rw [add_block]; omega)]; exact h2⟩

theorem Shows.congr {w : World} {a : Option Addr} {n : Nat} {f g : Nat → Value} (h : Shows w a n f) (e : ∀ i, i < n → f i = g i) : Shows w a n g := by
  intro i hi
  obtain ⟨x, hx, h1, h2⟩ := h i hi
  exact ⟨x, hx, h1, by rw [h2, e i hi]⟩

theorem Own.shows {w : World} {g n : Nat} {f : Nat → Value} (h : Own w g n f) : Shows w (.some ⟨g, 0, .none⟩) n f := by
  intro i hi
  refine ⟨_, rfl, h.1, ?_⟩
  rw [← (h.2 i hi).1]
  unfold Addr.add
  by_cases h0 : i = 0
  · subst h0; rfl
  · rw [if_neg h0]; simp

theorem Own.set {w : World} {g n : Nat} {f : Nat → Value} (h : Own w g n f) (k : Nat) (hk : k < n) (v : Value) : Own (w.setCell ⟨g, k, none⟩ v) g n (fun i => if i = k then v else f i) := by
  refine ⟨by have := h.1; simpa [World.setCell] using this, fun i hi => ⟨?_, by rw [World.frozen?_setCell]; exact (h.2 i hi).2⟩⟩
  by_cases e : i = k
  · subst e
    simp only [if_true]
    exact World.cell?_setCell_same _ _ _ (h.2 i hi).1
  · simp only [if_neg e]
    rw [World.cell?_setCell_other _ _ _ _ (by intro c; cases c; exact e rfl)]
    exact (h.2 i hi).1

theorem Own.congr {w : World} {g n : Nat} {f f' : Nat → Value} (h : Own w g n f) (e : ∀ i, i < n → f i = f' i) : Own w g n f' :=
  ⟨h.1, fun i hi => ⟨by rw [(h.2 i hi).1, e i hi], (h.2 i hi).2⟩⟩

theorem Own.below {w w' : World} {B g n : Nat} {f : Nat → Value} (h : Own w g n f) (hb : Below B w w') (hB : g < B) : Own w' g n f :=
  ⟨Nat.lt_of_lt_of_le h.1 hb.size, fun i hi => ⟨by rw [hb.cell (by exact hB)]; exact (h.2 i hi).1, by rw [hb.frozen (by exact hB)]; exact (h.2 i hi).2⟩⟩

/-- What 'make([]T, n)' leaves, elements of one cell. -/
theorem own_made {w' : World} {base : Nat} {e : TypeId} {g n : Nat} {z : Value}
    (h : w'.ownsRow base e 1 (.slice (some ⟨g, 0, none⟩) n n) n (madeCells #[z] n).toList) : Own w' g n (fun _ => z) := by
  have hg : g < w'.heap.size := by
    obtain ⟨_, h2⟩ := h
    rcases h2 with ⟨hv, _⟩ | ⟨g', cap, cur, hv, _, hh, _⟩
    · cases hv
    · cases hv
      exact (Array.getElem?_eq_some_iff.1 hh).1
  refine ⟨hg, fun i hi => ⟨?_, h.frozenAt i⟩⟩
  rw [h.cellAt i (by omega), toList_madeCells_one]
  simp [hi]
end Go.Proofs.Qxb6606386aDoor
