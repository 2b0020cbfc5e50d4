/-
  THE WALK of zzCloneMet: a grid of bools, copied deep.
-/
import Derived.Test.Qxb6606129aClone
namespace Go.Proofs.Qxb6606129a
open Go.RowKit

/-- A slice of n rows of bools: row r is L r long and holds Z r. -/
def Grid (w : World) (a : Option Addr) (n : Nat) (L : Nat → Nat) (Z : Nat → Nat → Bool) : Prop :=
  ∃ (A : Nat → Option Addr) (C : Nat → Nat), Shows w a n (fun r => .slice (A r) (L r) (C r)) ∧ ∀ r, r < n → Shows w (A r) (L r) (fun c => .bool (Z r c))

theorem Grid.below {w w' : World} {B : Nat} {a : Option Addr} {n : Nat} {L : Nat → Nat} {Z : Nat → Nat → Bool} (h : Grid w a n L Z) (hb : Below B w w') (hB : w.heap.size ≤ B) : Grid w' a n L Z := by
  obtain ⟨A, C, h1, h2⟩ := h
  exact ⟨A, C, h1.below hb hB, fun r hr => (h2 r hr).below hb hB⟩

theorem Grid.zero {w : World} {a : Option Addr} {L : Nat → Nat} {Z : Nat → Nat → Bool} : Grid w a 0 L Z :=
  ⟨fun _ => none, fun _ => 0, Shows.zero, fun _ h => absurd h (Nat.not_lt_zero _)⟩

theorem Try.info39 : (Try.prog.info? 39).map (fun i => (i.zero, i.size, i.bytes)) = some (some (.slice none 0 0), 1, 24) := by kernel_rfl

/-- What holds of the copy when k rows are copied. -/
def Copied (w : World) (g n k : Nat) (L : Nat → Nat) (Z : Nat → Nat → Bool) : Prop :=
  ∃ (A : Nat → Option Addr) (C : Nat → Nat), Own w g n (fun r => if r < k then .slice (A r) (L r) (C r) else .slice none 0 0) ∧ ∀ r, r < k → Shows w (A r) (L r) (fun c => .bool (Z r c)) ∧ ∀ x, A r = some x → g < x.block

theorem Copied.start {w : World} {g n : Nat} {L : Nat → Nat} {Z : Nat → Nat → Bool} (h : Own w g n (fun _ => .slice none 0 0)) : Copied w g n 0 L Z :=
  ⟨fun _ => none, fun _ => 0, h.congr (fun i _ => by simp), fun _ h => absurd h (Nat.not_lt_zero _)⟩

theorem Copied.done {w : World} {g n : Nat} {L : Nat → Nat} {Z : Nat → Nat → Bool} (h : Copied w g n n L Z) : Grid w (some ⟨g, 0, none⟩) n L Z := by
  obtain ⟨A, C, h1, h2⟩ := h
  exact ⟨A, C, (h1.congr (f' := fun r => .slice (A r) (L r) (C r)) (fun i hi => by simp [hi])).shows, fun r hr => (h2 r hr).1⟩

/-- The place that the next row is stored into. -/
theorem Copied.place {w : World} {g n k : Nat} {L : Nat → Nat} {Z : Nat → Nat → Bool} (h : Copied w g n k L Z) (hk : k < n) : w.cell? ⟨g, k, none⟩ = some (.slice none 0 0) ∧ w.frozen? ⟨g, k, none⟩ = false := by
  obtain ⟨A, C, h1, h2⟩ := h
  have := h1.2 k hk
  simpa using this

theorem Copied.size {w : World} {g n k : Nat} {L : Nat → Nat} {Z : Nat → Nat → Bool} (h : Copied w g n k L Z) : g < w.heap.size := by
  obtain ⟨A, C, h1, h2⟩ := h
  exact h1.1

theorem Copied.below {w w' : World} {B g n k : Nat} {L : Nat → Nat} {Z : Nat → Nat → Bool} (h : Copied w g n k L Z) (hb : Below B w w') (hB : w.heap.size ≤ B) : Copied w' g n k L Z := by
  obtain ⟨A, C, h1, h2⟩ := h
  exact ⟨A, C, h1.below hb (Nat.lt_of_lt_of_le h1.1 hB), fun r hr => ⟨(h2 r hr).1.below hb hB, (h2 r hr).2⟩⟩

theorem shows_setCell {w : World} {a : Option Addr} {n : Nat} {f : Nat → Value} (h : Shows w a n f) {p : Addr} (v : Value) (hp : ∀ x, a = some x → x.block ≠ p.block) : Shows (w.setCell p v) a n f := by
  intro i hi
  obtain ⟨x, hx, h1, h2⟩ := h i hi
  refine ⟨x, hx, by simpa [World.setCell] using h1, ?_⟩
  rw [World.cell?_setCell_other _ _ _ _ (fun c => hp x hx (by rw [c, add_block]))]
  exact h2

theorem Copied.step {w : World} {g n k : Nat} {L : Nat → Nat} {Z : Nat → Nat → Bool} (h : Copied w g n k L Z) (hk : k < n) {a : Option Addr} {c : Nat} (ha : Shows w a (L k) (fun c => .bool (Z k c))) (hf : ∀ x, a = some x → g < x.block) :
    Copied (w.setCell ⟨g, k, none⟩ (.slice a (L k) c)) g n (k + 1) L Z := by
  obtain ⟨A, C, h1, h2⟩ := h
  refine ⟨fun r => if r = k then a else A r, fun r => if r = k then c else C r, (h1.set k hk _).congr (fun i _ => ?_), fun r hr => ?_⟩
  · by_cases e : i = k
    · subst e; simp
    · by_cases l : i < k
      · simp [e, l, Nat.lt_succ_of_lt l]
      · simp [e, l, show ¬ i < k + 1 by omega]
  · by_cases e : r = k
    · subst e
      simp only [if_true]
      exact ⟨shows_setCell ha _ (fun x hx => by have := hf x hx; simp; omega), hf⟩
    · obtain ⟨k1, k2⟩ := h2 r (by omega)
      simp only [if_neg e]
      exact ⟨shows_setCell k1 _ (fun x hx => by have := k2 x hx; simp; omega), k2⟩

set_option maxHeartbeats 400000 in
theorem cloneMet_some (x : Addr) (n cap : Nat) (L : Nat → Nat) (Z : Nat → Nat → Bool) (w : World) (h : Grid w (some x) n L Z) (hn : n ≤ 1048576) (hL : ∀ r, r < n → L r ≤ 1048576) :
    Calls Try.prog 18 #[.slice (some x) n cap] w fun e w' => ∃ a' cap', e = .returned (.slice a' n cap') ∧ Grid w' a' n L Z ∧ Below w.heap.size w w' := by
  obtain ⟨i0, hi, hz0, hz1, hz2⟩ := info_parts Try.info39
  have hnil := fun w => Lib.run_eql_slice_nil (P := Try.prog) w 35 39 (some x) n cap 0 0 Try.underlying35
  obtain ⟨A, C, h1, h2⟩ := h
  have h1 := h1.some
  have H2 : Hid (∀ r, r < n → Shows w (A r) (L r) (fun c => .bool (Z r c))) := h2
  have HL : Hid (∀ r, r < n → L r ≤ 1048576) := hL
  clear h2 hL
  go_enter Try.func18, Try.ntmps18
  go_wp2_with (at_make; refine wpList_make_full _ rfl _ _ 35 rfl w.heap.size 39 i0 (.slice none 0 0) 1 Try.underlying35 hi hz0 hz1 _ _ _ _ n rfl rfl rfl rfl ?b1 ?b2 ?b3 ?_)
  case b1 => rw [hz2]; omega
  case b2 => unfold maxLen; omega
  case b3 => exact Nat.le_refl _
  intro w1 hown hgrow
  have ho : Copied w1 w.heap.size n 0 L Z := Copied.start (own_made hown)
  have hb : Below w.heap.size w w1 := (Below.refl _ _).grown hgrow (Nat.le_refl _) (fun _ h => by cases h)
  clear hown hgrow
  go_wp2
  go_loopw [4] (fun i wr => ∃ k : Nat, k ≤ n ∧ i = .int .i64 k ∧ Copied wr w.heap.size n k L Z ∧ Below w.heap.size w wr) (fun i _ => n - (intOf i).toNat)
  case atStart => exact ⟨0, Nat.zero_le _, rfl, ho, hb⟩
  case round =>
    obtain ⟨k, hk, rfl, hor, hbr⟩ := hrel
    clear ho hb
    by_cases hlt : k < n
    · have hcx : wr.cell? (x.add k) = some (.slice (A k) (L k) (C k)) := by rw [hbr.cell (by rw [add_block]; exact (h1 k hlt).1)]; exact (h1 k hlt).2
      have hrow := (H2.out k hlt).below hbr (Nat.le_refl _)
      have hlk := HL.out k hlt
      clear h1
      go_wp2_with fail
      refine (cloneBools _ _ _ (Z k) _ hrow hlk).mono ?_
      rintro e w2 ⟨a', cap', rfl, hs, hb2, hf⟩
      have hor2 := hor.below hb2 (Nat.le_refl _)
      obtain ⟨hc1, hc2⟩ := hor2.place hlt
      have hsz := hor.size
      have hst := hor2.step (c := cap') hlt hs (fun y hy => by have := hf y hy; omega)
      have hbn : Below w.heap.size w w2 := hbr.trans (hb2.mono (by have := hbr.size; omega))
      have HST : Hid (Copied (w2.setCell ⟨w.heap.size, k, none⟩ (.slice a' (L k) cap')) w.heap.size n (k + 1) L Z) := hst
      clear hor hor2 hst hs hf hcx hrow hlk hb2 hbr
      go_wp2
      go_roundw
      case rel => exact ⟨k + 1, by omega, by go_num, HST.out, hbn.setCell (Nat.le_refl _) _⟩
      case measure => simp [intOf]; omega
    · have he : k = n := by omega
      subst he
      have hsh := hor.done
      clear hor h1
      go_wp2
      go_ret
      exact ⟨_, _, rfl, hsh, hbr⟩

theorem cloneMet_none (n cap : Nat) (w : World) :
    Calls Try.prog 18 #[.slice none n cap] w fun e w' => e = .returned (.slice none 0 0) ∧ w = w' := by
  have hnil := fun w => Lib.run_eql_slice_nil (P := Try.prog) w 35 39 none n cap 0 0 Try.underlying35
  go_enter Try.func18, Try.ntmps18
  go_wp2
  go_ret
  exact ⟨rfl, rfl⟩

/-- zzCloneMet: a deep copy. -/
theorem cloneMet (a : Option Addr) (n cap : Nat) (L : Nat → Nat) (Z : Nat → Nat → Bool) (w : World) (h : Grid w a n L Z) (hn : n ≤ 1048576) (hL : ∀ r, r < n → L r ≤ 1048576) :
    Calls Try.prog 18 #[.slice a n cap] w fun e w' => ∃ a' cap', e = .returned (.slice a' n cap') ∧ Grid w' a' n L Z ∧ Below w.heap.size w w' := by
  cases a with
  | some x => exact cloneMet_some x n cap L Z w h hn hL
  | none =>
    obtain ⟨A, C, h1, h2⟩ := h
    obtain rfl := h1.none
    refine (cloneMet_none _ _ _).mono ?_
    rintro e w' ⟨rfl, rfl⟩
    exact ⟨_, _, rfl, Grid.zero, Below.refl _ _⟩
end Go.Proofs.Qxb6606129a
