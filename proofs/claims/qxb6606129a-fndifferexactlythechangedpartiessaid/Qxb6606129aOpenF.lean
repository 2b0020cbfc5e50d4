/-
  A []*[64][]int THAT CAME IN, OPENED: 'Blocks', and where its pointers lead to among the places that were read.
-/
import Derived.Test.Qxb6606129aBlocks
import Derived.ProofKit
import Derived.OpenShut
import Derived.Deep.Slices
namespace Go.Proofs.Qxb6606129a
open Go.ChangeShapes Go.WideShapes Go.ChangeAt Go.RowKit

theorem lt_of_cell {w : World} {a : Addr} {v : Value} (h : w.cell? a = some v) : a.block < w.heap.size := by
  by_cases hl : a.block < w.heap.size
  · exact hl
  · have e : w.heap[a.block]? = none := Array.getElem?_eq_none (by omega)
    simp [World.cell?, e] at h

theorem shows_of {w : World} {x : Addr} {n : Nat} {f : Nat → Value} (h : ∀ i, i < n → w.cell? (x.add i) = some (f i)) : Shows w (some x) n f := by
  intro i hi
  refine ⟨x, rfl, ?_, h i hi⟩
  have := lt_of_cell (h i hi)
  rwa [add_block] at this

theorem Try.cells28 : Try.prog.cellsOf 28 = 1 := by kernel_rfl
theorem Try.cells30 : Try.prog.cellsOf 30 = 1 := by kernel_rfl
theorem Try.cells33 : Try.prog.cellsOf 33 = 64 := by kernel_rfl
theorem Try.cells3 : Try.prog.cellsOf 3 = 1 := by kernel_rfl

section
variable {H : Type} {enc : TypeId × Value → H} {w : World} {base : Nat} {held : Bool}

/-- One list of ints. -/
theorem open_list {fuel : Nat} {v : Value} {x : DataW H × List MemPlace} (h : DataW.trod enc Try.prog w base (fun _ => true) held fuel 28 [v] = some x) :
    ∃ (a : Option Addr) (l c : Nat) (z : Nat → Int), v = .slice a l c ∧ Shows w a l (fun j => .int .i64 (z j)) := by
  rcases open_ints Try.underlying28 Try.underlying3 Try.cells3 h with ⟨hcs, _⟩ | ⟨x, l, c, zs, hcs, _, hl, hm, hz, _, hcell, hwz⟩
  · simp at hcs
    exact ⟨none, 0, 0, fun _ => 0, hcs, Shows.zero⟩
  · simp at hcs
    simp only [if_true] at hz
    exact ⟨some x, l, c, fun i => zs.getD i 0, hcs, shows_of (fun i hi => hcell i (by omega))⟩

/-- One block. -/
theorem open_block {fuel : Nat} {y : Addr} {cs : List Value} {x : DataW H × List MemPlace} (hcs : w.cells? base y 64 = some cs) (h : DataW.trod enc Try.prog w base (fun _ => true) held fuel 33 cs = some x) :
    ∃ L Z, Block w y L Z := by
  obtain ⟨xs, m, _, _, hlen, hxs, hx⟩ := DataW.trod_array Try.underlying33 h
  obtain ⟨hb, hl, hc⟩ := World.cells?_some hcs
  have each : ∀ i, i < 64 → ∃ r : Option Addr × Nat × Nat × (Nat → Int), w.cell? (y.add i) = some (.slice r.1 r.2.1 r.2.2.1) ∧ Shows w r.1 r.2.1 (fun j => .int .i64 (r.2.2.2 j)) := by
    intro i hi
    have h1 := hx i hi
    have hxi : xs[i]? = some (xs[i]'(by omega)) := List.getElem?_eq_getElem (by omega)
    rw [hxi, Try.cells28, Nat.mul_one] at h1
    have hd : (cs.drop i).take 1 = [cs[i]'(by omega)] := by
      rw [List.drop_eq_getElem_cons (by omega)]
      rfl
    rw [hd] at h1
    obtain ⟨a, l, c, z, hv, hs⟩ := open_list h1
    refine ⟨(a, l, c, z), ?_, hs⟩
    rw [hc i (by omega), List.getElem?_eq_getElem (by omega), hv]
  obtain ⟨f, hf⟩ := Deep.choose_lt each
  exact ⟨fun i => (f i).2.1, fun i => (f i).2.2.2, fun i => (f i).1, fun i => (f i).2.2.1, shows_of (fun i hi => (hf i hi).1), fun i hi => (hf i hi).2⟩

/-- The whole. -/
theorem open_blocks {fuel : Nat} {a : Option Addr} {n c : Nat} {x : DataW H × List MemPlace} (h : DataW.trod enc Try.prog w base (fun _ => true) held fuel 22 [.slice a n c] = some x) :
    ∃ P L Z, Blocks w a n P L Z ∧ ∀ k, k < n → ∀ y, P k = some y → MemPlace.cell y.block y.off ∈ x.2 := by
  rcases Deep.open_slice1 Try.underlying22 Try.cells30 h with ⟨hcs, _⟩ | ⟨a', len, cap, m, n', V, D, Pl, hcs, _, hl, hm, hmm, hxp, hx⟩
  · simp at hcs
    obtain ⟨rfl, rfl, rfl⟩ := hcs
    exact ⟨fun _ => none, fun _ _ => 0, fun _ _ _ => 0, Blocks.zero, fun _ h => absurd h (Nat.not_lt_zero _)⟩
  · simp at hcs
    obtain ⟨rfl, rfl, rfl⟩ := hcs
    simp only [if_true] at hmm
    subst hmm
    have each : ∀ k, k < n → ∃ r : Option Addr × (Nat → Nat) × (Nat → Nat → Int), V k = .pointer r.1 ∧ ∀ y, r.1 = some y → Block w y r.2.1 r.2.2 ∧ MemPlace.cell y.block y.off ∈ Pl k := by
      intro k hk
      rcases DataW.trod_pointer Try.underlying30 (hx k (by omega)).2 with ⟨hv, _⟩ | ⟨y, cs', z, _, _, hv, hpl, hcells, hd⟩
      · simp at hv
        exact ⟨(none, fun _ => 0, fun _ _ => 0), hv, fun _ c => by cases c⟩
      · simp at hv
        rw [Try.cells33] at hcells
        obtain ⟨L, Z, hb⟩ := open_block hcells hd
        refine ⟨(some y, L, Z), hv, fun z hz => ?_⟩
        cases hz
        refine ⟨hb, ?_⟩
        simp only [Prod.mk.injEq] at hpl
        rw [hpl.2, Try.cells33]
        exact List.mem_append_left _ (List.mem_map.2 ⟨0, by simp, rfl⟩)
    obtain ⟨f, hf⟩ := Deep.choose_lt each
    exact ⟨fun k => (f k).1, fun k => (f k).2.1, fun k => (f k).2.2, ⟨shows_of (fun i hi => by rw [(hx i (by omega)).1, (hf i hi).1]), fun k hk y hy => ((hf k hk).2 y hy).1⟩, fun k hk y hy => by
      rw [hxp]
      exact List.mem_append_right _ (List.mem_flatMap.2 ⟨k, List.mem_range.2 (by omega), ((hf k hk).2 y hy).2⟩)⟩
end
end Go.Proofs.Qxb6606129a
