/-
  THE WALKS of zzCloneBlock and zzCloneBlocks.
-/
import Derived.Test.Qxb6606129aBlocks
import Derived.Test.Qxb6606129aMet
namespace Go.Proofs.Qxb6606129a
open Go.RowKit

/-- What holds of the copy when k lists are copied. -/
def Lists (w : World) (g n k : Nat) (L : Nat → Nat) (Z : Nat → Nat → Int) : Prop :=
  ∃ (A : Nat → Option Addr) (C : Nat → Nat), Own w g n (fun r => if r < k then .slice (A r) (L r) (C r) else .slice none 0 0) ∧ ∀ r, r < k → Shows w (A r) (L r) (fun c => .int .i64 (Z r c)) ∧ ∀ x, A r = some x → g < x.block

theorem Lists.start {w : World} {g n : Nat} {L : Nat → Nat} {Z : Nat → Nat → Int} (h : Own w g n (fun _ => .slice none 0 0)) : Lists w g n 0 L Z :=
  ⟨fun _ => none, fun _ => 0, h.congr (fun i _ => by simp), fun _ h => absurd h (Nat.not_lt_zero _)⟩

/-- A block of 64 plain cells, none of it marked. -/
def Plain (w : World) (g : Nat) : Prop := ∃ (c : Array Value) (t : TypeId), w.heap[g]? = some (.cells c t (0, 0)) ∧ c.size = 64

theorem Plain.lt {w : World} {g : Nat} (h : Plain w g) : g < w.heap.size := by
  obtain ⟨c, t, h, _⟩ := h
  exact (Array.getElem?_eq_some_iff.1 h).1

theorem Plain.below {w w' : World} {B g : Nat} (h : Plain w g) (hb : Below B w w') (hB : w.heap.size ≤ B) : Plain w' g := by
  have hl := h.lt
  obtain ⟨c, t, h, hs⟩ := h
  exact ⟨c, t, by rw [hb.block g (by omega)]; exact h, hs⟩

theorem Plain.setCell {w : World} {g : Nat} (h : Plain w g) (p : Addr) (v : Value) : Plain (w.setCell p v) g := by
  obtain ⟨c, t, h, hs⟩ := h
  by_cases e : p.block = g
  · refine ⟨if p.spot.isSome then c else c.setIfInBounds p.off v, t, ?_, ?_⟩
    · simp [World.setCell, Array.getElem?_modify, e, h]
    · split <;> simp [hs]
  · exact ⟨c, t, by rw [Below.heap_setCell _ _ _ _ (fun c => e c.symm)]; exact h, hs⟩

theorem Plain.alloc (w : World) (c : Array Value) (t : TypeId) (hs : c.size = 64) : Plain (w.alloc (.cells c t)) w.heap.size :=
  ⟨c, t, by show (w.heap.push _)[w.heap.size]? = _; simp, hs⟩

/-- A block whose memory lies at block number B or above. -/
def Fresh (B : Nat) (w : World) (y : Addr) (L : Nat → Nat) (Z : Nat → Nat → Int) : Prop :=
  (B ≤ y.block ∧ Plain w y.block ∧ y = ⟨y.block, 0, none⟩) ∧ ∃ (A : Nat → Option Addr) (C : Nat → Nat), Shows w (some y) 64 (fun i => .slice (A i) (L i) (C i)) ∧ ∀ i, i < 64 → Shows w (A i) (L i) (fun j => .int .i64 (Z i j)) ∧ ∀ x, A i = some x → B ≤ x.block

theorem Fresh.block {B : Nat} {w : World} {y : Addr} {L : Nat → Nat} {Z : Nat → Nat → Int} (h : Fresh B w y L Z) : Block w y L Z := by
  obtain ⟨_, A, C, h1, h2⟩ := h
  exact ⟨A, C, h1, fun i hi => (h2 i hi).1⟩

theorem Fresh.mono {B B' : Nat} {w : World} {y : Addr} {L : Nat → Nat} {Z : Nat → Nat → Int} (h : Fresh B w y L Z) (hB : B' ≤ B) : Fresh B' w y L Z := by
  obtain ⟨h0, A, C, h1, h2⟩ := h
  exact ⟨⟨Nat.le_trans hB h0.1, h0.2⟩, A, C, h1, fun i hi => ⟨(h2 i hi).1, fun x hx => Nat.le_trans hB ((h2 i hi).2 x hx)⟩⟩

theorem Fresh.below {B B' : Nat} {w w' : World} {y : Addr} {L : Nat → Nat} {Z : Nat → Nat → Int} (h : Fresh B w y L Z) (hb : Below B' w w') (hB : w.heap.size ≤ B') : Fresh B w' y L Z := by
  obtain ⟨h0, A, C, h1, h2⟩ := h
  exact ⟨⟨h0.1, h0.2.1.below hb hB, h0.2.2⟩, A, C, h1.below hb hB, fun i hi => ⟨(h2 i hi).1.below hb hB, (h2 i hi).2⟩⟩

theorem Fresh.setCell {B : Nat} {w : World} {y : Addr} {L : Nat → Nat} {Z : Nat → Nat → Int} (h : Fresh B w y L Z) {p : Addr} (hp : p.block < B) (v : Value) : Fresh B (w.setCell p v) y L Z := by
  obtain ⟨h0, A, C, h1, h2⟩ := h
  refine ⟨⟨h0.1, h0.2.1.setCell p v, h0.2.2⟩, A, C, shows_setCell h1 v (fun x hx => ?_), fun i hi => ⟨shows_setCell (h2 i hi).1 v (fun x hx => ?_), (h2 i hi).2⟩⟩
  · cases hx
    have := h0.1
    omega
  · have := (h2 i hi).2 x hx
    omega

theorem Lists.done {w : World} {g : Nat} {L : Nat → Nat} {Z : Nat → Nat → Int} (h : Lists w g 64 64 L Z) (hp : Plain w g) : Fresh g w ⟨g, 0, none⟩ L Z := by
  obtain ⟨A, C, h1, h2⟩ := h
  exact ⟨⟨Nat.le_refl _, hp, rfl⟩, A, C, (h1.congr (f' := fun r => .slice (A r) (L r) (C r)) (fun i hi => by simp [hi])).shows, fun r hr => ⟨(h2 r hr).1, fun x hx => Nat.le_of_lt ((h2 r hr).2 x hx)⟩⟩

/-- The place that the next row is stored into. -/
theorem Lists.place {w : World} {g n k : Nat} {L : Nat → Nat} {Z : Nat → Nat → Int} (h : Lists w g n k L Z) (hk : k < n) : w.cell? ⟨g, k, none⟩ = some (.slice none 0 0) ∧ w.frozen? ⟨g, k, none⟩ = false := by
  obtain ⟨A, C, h1, h2⟩ := h
  have := h1.2 k hk
  simpa using this

theorem Lists.size {w : World} {g n k : Nat} {L : Nat → Nat} {Z : Nat → Nat → Int} (h : Lists w g n k L Z) : g < w.heap.size := by
  obtain ⟨A, C, h1, h2⟩ := h
  exact h1.1

theorem Lists.below {w w' : World} {B g n k : Nat} {L : Nat → Nat} {Z : Nat → Nat → Int} (h : Lists w g n k L Z) (hb : Below B w w') (hB : w.heap.size ≤ B) : Lists w' g n k L Z := by
  obtain ⟨A, C, h1, h2⟩ := h
  exact ⟨A, C, h1.below hb (Nat.lt_of_lt_of_le h1.1 hB), fun r hr => ⟨(h2 r hr).1.below hb hB, (h2 r hr).2⟩⟩

theorem Lists.step {w : World} {g n k : Nat} {L : Nat → Nat} {Z : Nat → Nat → Int} (h : Lists w g n k L Z) (hk : k < n) {a : Option Addr} {c : Nat} (ha : Shows w a (L k) (fun c => .int .i64 (Z k c))) (hf : ∀ x, a = some x → g < x.block) :
    Lists (w.setCell ⟨g, k, none⟩ (.slice a (L k) c)) g n (k + 1) L Z := by
  obtain ⟨A, C, h1, h2⟩ := h
  refine ⟨fun r => if r = k then a else A r, fun r => if r = k then c else C r, (h1.set k hk _).congr (fun i _ => ?_), fun r hr => ?_⟩
  · by_cases e : i = k
    · subst e; simp
    · by_cases l : i < k
      · simp [e, l, Nat.lt_succ_of_lt l]
      · simp [e, l, show ¬ i < k + 1 by omega]
  · by_cases e : r = k
    · subst e
      simp only [if_true]
      exact ⟨shows_setCell ha _ (fun x hx => by have := hf x hx; simp; omega), hf⟩
    · obtain ⟨k1, k2⟩ := h2 r (by omega)
      simp only [if_neg e]
      exact ⟨shows_setCell k1 _ (fun x hx => by have := k2 x hx; simp; omega), k2⟩


theorem own_alloc (w : World) (c : Array Value) (t : TypeId) (v : Value) (n : Nat) (hc : c = Array.replicate n v) : Own (w.alloc (.cells c t)) w.heap.size n (fun _ => v) := by
  subst hc
  refine ⟨by simp, fun i hi => ⟨?_, ?_⟩⟩
  · rw [World.cell?_alloc_new]
    simp [hi]
  · rw [frozen?_alloc_cells]
    simp [World.frozen?]

set_option maxRecDepth 100000 in
set_option maxHeartbeats 400000 in
theorem cloneBlock_some (y : Addr) (L : Nat → Nat) (Z : Nat → Nat → Int) (w : World) (h : Block w y L Z) (hL : ∀ i, i < 64 → L i ≤ 131072) :
    Calls Try.prog 21 #[.pointer (some y)] w fun e w' => ∃ y', e = .returned (.pointer (some y')) ∧ Fresh w.heap.size w' y' L Z ∧ Below w.heap.size w w' := by
  obtain ⟨A, C, h1, h2⟩ := h
  have h1 := h1.some
  have H2 : Hid (∀ r, r < 64 → Shows w (A r) (L r) (fun c => .int .i64 (Z r c))) := h2
  have HL : Hid (∀ r, r < 64 → L r ≤ 131072) := hL
  clear h2 hL
  go_enter Try.func21, Try.ntmps21
  go_wp2
  go_loopw [4] (fun i wr => ∃ k : Nat, k ≤ 64 ∧ i = .int .i64 k ∧ Lists wr w.heap.size 64 k L Z ∧ Plain wr w.heap.size ∧ Below w.heap.size w wr) (fun i _ => 64 - (intOf i).toNat)
  case atStart => exact ⟨0, Nat.zero_le _, rfl, Lists.start (own_alloc w _ 33 (.slice none 0 0) 64 rfl), Plain.alloc _ _ _ rfl, (Below.refl _ _).alloc (Nat.le_refl _) _⟩
  case round =>
    obtain ⟨k, hk, rfl, hor, hpl, hbr⟩ := hrel
    by_cases hlt : k < 64
    · have hcx : wr.cell? (y.add k) = some (.slice (A k) (L k) (C k)) := by rw [hbr.cell (by rw [add_block]; exact (h1 k hlt).1)]; exact (h1 k hlt).2
      have hrow := (H2.out k hlt).below hbr (Nat.le_refl _)
      have hlk := HL.out k hlt
      clear h1
      go_wp2_with fail
      refine (cloneInts _ _ _ (Z k) _ hrow (by omega)).mono ?_
      rintro e w2 ⟨a', cap', rfl, hs, hb2, hf⟩
      have hor2 := hor.below hb2 (Nat.le_refl _)
      obtain ⟨hc1, hc2⟩ := hor2.place hlt
      have hsz := hor.size
      have hst := hor2.step (c := cap') hlt hs (fun y hy => by have := hf y hy; omega)
      have hbn : Below w.heap.size w w2 := hbr.trans (hb2.mono (by have := hbr.size; omega))
      have hpn := hpl.below hb2 (Nat.le_refl _)
      have HP : Hid (Plain w2 w.heap.size) := hpn
      have HST : Hid (Lists (w2.setCell ⟨w.heap.size, k, none⟩ (.slice a' (L k) cap')) w.heap.size 64 (k + 1) L Z) := hst
      clear hor hor2 hst hs hf hcx hrow hlk hb2 hbr hpn hpl
      go_wp2
      go_roundw
      case rel => exact ⟨k + 1, by omega, by go_num, HST.out, HP.out.setCell _ _, hbn.setCell (Nat.le_refl _) _⟩
      case measure => simp [intOf]; omega
    · have he : k = 64 := by omega
      subst he
      have hsh := hor.done hpl
      clear hor h1 hpl
      go_wp2
      go_ret
      exact ⟨_, rfl, hsh, hbr⟩

theorem cloneBlock_none (w : World) :
    Calls Try.prog 21 #[.pointer none] w fun e w' => e = .returned (.pointer none) ∧ w = w' := by
  go_enter Try.func21, Try.ntmps21
  go_wp2
  go_ret
  exact ⟨rfl, rfl⟩

/-- What a copied pointer is: nil for nil; else a new block of the same lists. -/
def Twin (B : Nat) (w : World) (p p' : Option Addr) (L : Nat → Nat) (Z : Nat → Nat → Int) : Prop :=
  (p = none → p' = none) ∧ (p ≠ none → p' ≠ none) ∧ ∀ y, p' = some y → Fresh B w y L Z

/-- zzCloneBlock. -/
theorem cloneBlock (p : Option Addr) (L : Nat → Nat) (Z : Nat → Nat → Int) (w : World) (h : ∀ y, p = some y → Block w y L Z) (hL : p ≠ none → ∀ i, i < 64 → L i ≤ 131072) :
    Calls Try.prog 21 #[.pointer p] w fun e w' => ∃ p', e = .returned (.pointer p') ∧ Twin w.heap.size w' p p' L Z ∧ Below w.heap.size w w' := by
  cases p with
  | some y =>
    refine (cloneBlock_some y L Z w (h y rfl) (hL (by simp))).mono ?_
    rintro e w' ⟨y', rfl, hf, hb⟩
    exact ⟨_, rfl, ⟨fun c => (by cases c), fun _ c => (by cases c), fun z hz => (by cases hz; exact hf)⟩, hb⟩
  | none =>
    refine (cloneBlock_none w).mono ?_
    rintro e w' ⟨rfl, rfl⟩
    exact ⟨_, rfl, ⟨fun _ => rfl, fun c => absurd rfl c, fun z hz => (by cases hz)⟩, Below.refl _ _⟩

theorem Twin.below {B B' : Nat} {w w' : World} {p p' : Option Addr} {L : Nat → Nat} {Z : Nat → Nat → Int} (h : Twin B w p p' L Z) (hb : Below B' w w') (hB : w.heap.size ≤ B') : Twin B w' p p' L Z :=
  ⟨h.1, h.2.1, fun y hy => (h.2.2 y hy).below hb hB⟩

theorem Twin.mono {B B' : Nat} {w : World} {p p' : Option Addr} {L : Nat → Nat} {Z : Nat → Nat → Int} (h : Twin B w p p' L Z) (hB : B' ≤ B) : Twin B' w p p' L Z :=
  ⟨h.1, h.2.1, fun y hy => (h.2.2 y hy).mono hB⟩

theorem Twin.setCell {B : Nat} {w : World} {p p' : Option Addr} {L : Nat → Nat} {Z : Nat → Nat → Int} (h : Twin B w p p' L Z) {q : Addr} (hq : q.block < B) (v : Value) : Twin B (w.setCell q v) p p' L Z :=
  ⟨h.1, h.2.1, fun y hy => (h.2.2 y hy).setCell hq v⟩

/-- When k pointers are copied into block g. -/
def Ptrs (w : World) (g n k : Nat) (P : Nat → Option Addr) (L : Nat → Nat → Nat) (Z : Nat → Nat → Nat → Int) : Prop :=
  ∃ P' : Nat → Option Addr, Own w g n (fun r => if r < k then .pointer (P' r) else .pointer none) ∧ ∀ r, r < k → Twin (g + 1) w (P r) (P' r) (L r) (Z r)

theorem Ptrs.start {w : World} {g n : Nat} {P : Nat → Option Addr} {L : Nat → Nat → Nat} {Z : Nat → Nat → Nat → Int} (h : Own w g n (fun _ => .pointer none)) : Ptrs w g n 0 P L Z :=
  ⟨fun _ => none, h.congr (fun i _ => by simp), fun _ h => absurd h (Nat.not_lt_zero _)⟩

theorem Ptrs.place {w : World} {g n k : Nat} {P : Nat → Option Addr} {L : Nat → Nat → Nat} {Z : Nat → Nat → Nat → Int} (h : Ptrs w g n k P L Z) (hk : k < n) : w.cell? ⟨g, k, none⟩ = some (.pointer none) ∧ w.frozen? ⟨g, k, none⟩ = false := by
  obtain ⟨P', h1, h2⟩ := h
  have := h1.2 k hk
  simpa using this

theorem Ptrs.size {w : World} {g n k : Nat} {P : Nat → Option Addr} {L : Nat → Nat → Nat} {Z : Nat → Nat → Nat → Int} (h : Ptrs w g n k P L Z) : g < w.heap.size := by
  obtain ⟨P', h1, h2⟩ := h
  exact h1.1

theorem Ptrs.below {w w' : World} {B g n k : Nat} {P : Nat → Option Addr} {L : Nat → Nat → Nat} {Z : Nat → Nat → Nat → Int} (h : Ptrs w g n k P L Z) (hb : Below B w w') (hB : w.heap.size ≤ B) : Ptrs w' g n k P L Z := by
  obtain ⟨P', h1, h2⟩ := h
  exact ⟨P', h1.below hb (Nat.lt_of_lt_of_le h1.1 hB), fun r hr => (h2 r hr).below hb hB⟩

theorem Ptrs.step {w : World} {g n k : Nat} {P : Nat → Option Addr} {L : Nat → Nat → Nat} {Z : Nat → Nat → Nat → Int} (h : Ptrs w g n k P L Z) (hk : k < n) {p' : Option Addr} (hp : Twin (g + 1) w (P k) p' (L k) (Z k)) :
    Ptrs (w.setCell ⟨g, k, none⟩ (.pointer p')) g n (k + 1) P L Z := by
  obtain ⟨P', h1, h2⟩ := h
  refine ⟨fun r => if r = k then p' else P' r, (h1.set k hk _).congr (fun i _ => ?_), fun r hr => ?_⟩
  · by_cases e : i = k
    · subst e; simp
    · by_cases l : i < k
      · simp [e, l, Nat.lt_succ_of_lt l]
      · simp [e, l, show ¬ i < k + 1 by omega]
  · by_cases e : r = k
    · subst e
      simp only [if_true]
      exact hp.setCell (by simp) _
    · simp only [if_neg e]
      exact (h2 r (by omega)).setCell (by simp) _

/-- What zzCloneBlocks leaves: a new list of pointers, each the twin of the old one. -/
def Twins (w : World) (a : Option Addr) (n : Nat) (P P' : Nat → Option Addr) (L : Nat → Nat → Nat) (Z : Nat → Nat → Nat → Int) : Prop :=
  Shows w a n (fun k => .pointer (P' k)) ∧ ∀ k, k < n → Twin 0 w (P k) (P' k) (L k) (Z k)

theorem Twins.below {w w' : World} {B : Nat} {a : Option Addr} {n : Nat} {P P' : Nat → Option Addr} {L : Nat → Nat → Nat} {Z : Nat → Nat → Nat → Int} (h : Twins w a n P P' L Z) (hb : Below B w w') (hB : w.heap.size ≤ B) : Twins w' a n P P' L Z :=
  ⟨h.1.below hb hB, fun k hk => (h.2 k hk).below hb hB⟩

theorem Twins.blocks {w : World} {a : Option Addr} {n : Nat} {P P' : Nat → Option Addr} {L : Nat → Nat → Nat} {Z : Nat → Nat → Nat → Int} (h : Twins w a n P P' L Z) : Blocks w a n P' L Z :=
  ⟨h.1, fun k hk y hy => ((h.2 k hk).2.2 y hy).block⟩

theorem Ptrs.done {w : World} {g n : Nat} {P : Nat → Option Addr} {L : Nat → Nat → Nat} {Z : Nat → Nat → Nat → Int} (h : Ptrs w g n n P L Z) : ∃ P', Twins w (some ⟨g, 0, none⟩) n P P' L Z := by
  obtain ⟨P', h1, h2⟩ := h
  exact ⟨P', (h1.congr (f' := fun r => .pointer (P' r)) (fun i hi => by simp [hi])).shows, fun r hr => (h2 r hr).mono (Nat.zero_le _)⟩

theorem Try.info30 : (Try.prog.info? 30).map (fun i => (i.zero, i.size, i.bytes)) = some (some (.pointer none), 1, 8) := by kernel_rfl

set_option maxHeartbeats 400000 in
theorem cloneBlocks_some (x : Addr) (n cap : Nat) (P : Nat → Option Addr) (L : Nat → Nat → Nat) (Z : Nat → Nat → Nat → Int) (w : World) (h : Blocks w (some x) n P L Z) (hn : n ≤ 131072) (hL : Small n P L) :
    Calls Try.prog 10 #[.slice (some x) n cap] w fun e w' => ∃ a' cap' P', e = .returned (.slice a' n cap') ∧ Twins w' a' n P P' L Z ∧ Below w.heap.size w w' := by
  obtain ⟨i0, hi, hz0, hz1, hz2⟩ := info_parts Try.info30
  have hnil := fun w => Lib.run_eql_slice_nil (P := Try.prog) w 22 30 (some x) n cap 0 0 Try.underlying22
  obtain ⟨h1, h2⟩ := h
  have h1 := h1.some
  have H2 : Hid (∀ k, k < n → ∀ y, P k = some y → Block w y (L k) (Z k)) := h2
  have HL : Hid (Small n P L) := hL
  clear h2 hL
  go_enter Try.func10, Try.ntmps10
  go_wp2_with (at_make; refine wpList_make_full _ rfl _ _ 22 rfl w.heap.size 30 i0 (.pointer none) 1 Try.underlying22 hi hz0 hz1 _ _ _ _ n rfl rfl rfl rfl ?b1 ?b2 ?b3 ?_)
  case b1 => rw [hz2]; omega
  case b2 => unfold maxLen; omega
  case b3 => exact Nat.le_refl _
  intro w1 hown hgrow
  have ho : Ptrs w1 w.heap.size n 0 P L Z := Ptrs.start (own_made hown)
  have hb : Below w.heap.size w w1 := (Below.refl _ _).grown hgrow (Nat.le_refl _) (fun _ h => by cases h)
  clear hown hgrow
  go_wp2
  go_loopw [4] (fun i wr => ∃ k : Nat, k ≤ n ∧ i = .int .i64 k ∧ Ptrs wr w.heap.size n k P L Z ∧ Below w.heap.size w wr) (fun i _ => n - (intOf i).toNat)
  case atStart => exact ⟨0, Nat.zero_le _, rfl, ho, hb⟩
  case round =>
    obtain ⟨k, hk, rfl, hor, hbr⟩ := hrel
    clear ho hb
    by_cases hlt : k < n
    · have hcx : wr.cell? (x.add k) = some (.pointer (P k)) := by rw [hbr.cell (by rw [add_block]; exact (h1 k hlt).1)]; exact (h1 k hlt).2
      have hblk : Hid (∀ y, P k = some y → Block wr y (L k) (Z k)) := fun y hy => (H2.out k hlt y hy).below hbr (Nat.le_refl _)
      have hlk : Hid (P k ≠ none → ∀ i, i < 64 → L k i ≤ 131072) := HL.out k hlt
      clear h1
      go_wp2_with fail
      refine (cloneBlock (P k) (L k) (Z k) _ hblk.out hlk.out).mono ?_
      rintro e w2 ⟨p', rfl, htw, hb2⟩
      have hor2 := hor.below hb2 (Nat.le_refl _)
      obtain ⟨hc1, hc2⟩ := hor2.place hlt
      have hsz := hor.size
      have hst := hor2.step hlt (htw.mono (by omega))
      have hbn : Below w.heap.size w w2 := hbr.trans (hb2.mono (by have := hbr.size; omega))
      have HST : Hid (Ptrs (w2.setCell ⟨w.heap.size, k, none⟩ (.pointer p')) w.heap.size n (k + 1) P L Z) := hst
      clear hor hor2 hst htw hcx hblk hlk hb2 hbr
      go_wp2
      go_roundw
      case rel => exact ⟨k + 1, by omega, by go_num, HST.out, hbn.setCell (Nat.le_refl _) _⟩
      case measure => simp [intOf]; omega
    · have he : k = n := by omega
      subst he
      obtain ⟨P', hsh⟩ := hor.done
      have HSH : Hid (Twins wr (some ⟨w.heap.size, 0, none⟩) k P P' L Z) := hsh
      clear hor h1 hsh
      go_wp2
      go_ret
      exact ⟨_, _, P', rfl, HSH.out, hbr⟩

theorem cloneBlocks_none (n cap : Nat) (w : World) :
    Calls Try.prog 10 #[.slice none n cap] w fun e w' => e = .returned (.slice none 0 0) ∧ w = w' := by
  have hnil := fun w => Lib.run_eql_slice_nil (P := Try.prog) w 22 30 none n cap 0 0 Try.underlying22
  go_enter Try.func10, Try.ntmps10
  go_wp2
  go_ret
  exact ⟨rfl, rfl⟩

/-- zzCloneBlocks. -/
theorem cloneBlocks (a : Option Addr) (n cap : Nat) (P : Nat → Option Addr) (L : Nat → Nat → Nat) (Z : Nat → Nat → Nat → Int) (w : World) (h : Blocks w a n P L Z) (hn : n ≤ 131072) (hL : Small n P L) :
    Calls Try.prog 10 #[.slice a n cap] w fun e w' => ∃ a' cap' P', e = .returned (.slice a' n cap') ∧ Twins w' a' n P P' L Z ∧ Below w.heap.size w w' := by
  cases a with
  | some x => exact cloneBlocks_some x n cap P L Z w h hn hL
  | none =>
    obtain rfl := h.1.none
    refine (cloneBlocks_none _ _ _).mono ?_
    rintro e w' ⟨rfl, rfl⟩
    exact ⟨_, _, P, rfl, ⟨Shows.zero, fun _ c => absurd c (Nat.not_lt_zero _)⟩, Below.refl _ _⟩
end Go.Proofs.Qxb6606129a
