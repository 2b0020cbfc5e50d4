/-
  THE WALKS of the copies: zzCloneInts, zzCloneBools.
-/
import Derived.Test.Qxb6606129aChecked
import Derived.Test.Qxb6606129aMem
namespace Go.Proofs.Qxb6606129a
open Go.RowKit

theorem Try.info3 : (Try.prog.info? 3).map (fun i => (i.zero, i.size, i.bytes)) = some (some (.int .i64 0), 1, 8) := by kernel_rfl
theorem Try.info4 : (Try.prog.info? 4).map (fun i => (i.zero, i.size, i.bytes)) = some (some (.bool false), 1, 1) := by kernel_rfl

theorem step_fun {wr : World} {g n k : Nat} {f : Nat → Value} {u : Value} (h : Own wr g n (fun i => if i < k then f i else u)) (hk : k < n) :
    Own (wr.setCell ⟨g, k, none⟩ (f k)) g n (fun i => if i < k + 1 then f i else u) := by
  refine (h.set k hk (f k)).congr (fun i _ => ?_)
  by_cases e : i = k
  · subst e; simp
  · by_cases l : i < k
    · simp [e, l, Nat.lt_succ_of_lt l]
    · simp [e, l, show ¬ i < k + 1 by omega]
theorem step_int {wr : World} {g n k : Nat} {z : Nat → Int} (h : Own wr g n (fun i => if i < k then .int .i64 (z i) else .int .i64 0)) (hk : k < n) :
    Own (wr.setCell ⟨g, k, none⟩ (.int .i64 (z k))) g n (fun i => if i < k + 1 then .int .i64 (z i) else .int .i64 0) := step_fun (f := fun i => .int .i64 (z i)) h hk

theorem step_bool {wr : World} {g n k : Nat} {z : Nat → Bool} (h : Own wr g n (fun i => if i < k then .bool (z i) else .bool false)) (hk : k < n) :
    Own (wr.setCell ⟨g, k, none⟩ (.bool (z k))) g n (fun i => if i < k + 1 then .bool (z i) else .bool false) := step_fun (f := fun i => .bool (z i)) h hk

set_option maxHeartbeats 400000 in
theorem cloneInts_some (x : Addr) (n cap : Nat) (z : Nat → Int) (w : World) (h : Shows w (some x) n (fun i => .int .i64 (z i))) (hn : n ≤ 1048576) :
    Calls Try.prog 19 #[.slice (some x) n cap] w fun e w' => ∃ a' cap', e = .returned (.slice a' n cap') ∧ Shows w' a' n (fun i => .int .i64 (z i)) ∧ Below w.heap.size w w' ∧ ∀ x, a' = some x → w.heap.size ≤ x.block := by
  obtain ⟨i0, hi, hz0, hz1, hz2⟩ := info_parts Try.info3
  have hnil := fun w => Lib.run_eql_slice_nil (P := Try.prog) w 28 3 (some x) n cap 0 0 Try.underlying28
  go_enter Try.func19, Try.ntmps19
  go_wp2_with (at_make; refine wpList_make_full _ rfl _ _ 28 rfl w.heap.size 3 i0 (.int .i64 0) 1 Try.underlying28 hi hz0 hz1 _ _ _ _ n rfl rfl rfl rfl ?b1 ?b2 ?b3 ?_)
  case b1 => rw [hz2]; omega
  case b2 => unfold maxLen; omega
  case b3 => exact Nat.le_refl _
  intro w1 hown hgrow
  have ho := own_made hown
  have hb : Below w.heap.size w w1 := (Below.refl _ _).grown hgrow (Nat.le_refl _) (fun _ h => by cases h)
  clear hown hgrow
  have h' := h.some
  clear h
  go_wp2
  go_loopw [4] (fun i wr => ∃ k : Nat, k ≤ n ∧ i = .int .i64 k ∧ Own wr w.heap.size n (fun i => if i < k then .int .i64 (z i) else .int .i64 0) ∧ Below w.heap.size w wr)
    (fun i _ => n - (intOf i).toNat)
  case atStart => exact ⟨0, Nat.zero_le _, rfl, ho.congr (fun i _ => by simp), hb⟩
  case round =>
    obtain ⟨k, hk, rfl, hor, hbr⟩ := hrel
    clear ho hb
    by_cases hlt : k < n
    · have hcx : wr.cell? (x.add k) = some (.int .i64 (z k)) := by rw [hbr.cell (by rw [add_block]; exact (h' k hlt).1)]; exact (h' k hlt).2
      have hc1 := (hor.2 k hlt).1
      have hc2 := (hor.2 k hlt).2
      simp only [if_neg (Nat.lt_irrefl k)] at hc1
      have HOR : Hid (Own wr w.heap.size n (fun i => if i < k then .int .i64 (z i) else .int .i64 0)) := hor
      clear hor h'
      go_wp2
      go_roundw
      case rel => exact ⟨k + 1, by omega, by go_num, step_int HOR.out hlt, hbr.setCell (Nat.le_refl _) _⟩
      case measure => simp [intOf]; omega
    · have he : k = n := by omega
      subst he
      have hsh := (hor.congr (f' := fun i => .int .i64 (z i)) (fun i hi => by simp [hi])).shows
      clear hor h'
      go_wp2
      go_ret
      exact ⟨_, _, rfl, hsh, hbr, fun y hy => by cases hy; exact Nat.le_refl _⟩

theorem cloneInts_none (n cap : Nat) (w : World) :
    Calls Try.prog 19 #[.slice none n cap] w fun e w' => e = .returned (.slice none 0 0) ∧ w = w' := by
  have hnil := fun w => Lib.run_eql_slice_nil (P := Try.prog) w 28 3 none n cap 0 0 Try.underlying28
  go_enter Try.func19, Try.ntmps19
  go_wp2
  go_ret
  exact ⟨rfl, rfl⟩

/-- zzCloneInts: a copy of its own. -/
theorem cloneInts (a : Option Addr) (n cap : Nat) (z : Nat → Int) (w : World) (h : Shows w a n (fun i => .int .i64 (z i))) (hn : n ≤ 1048576) :
    Calls Try.prog 19 #[.slice a n cap] w fun e w' => ∃ a' cap', e = .returned (.slice a' n cap') ∧ Shows w' a' n (fun i => .int .i64 (z i)) ∧ Below w.heap.size w w' ∧ ∀ x, a' = some x → w.heap.size ≤ x.block := by
  cases a with
  | some x => exact cloneInts_some x n cap z w h hn
  | none =>
    obtain rfl := h.none
    refine (cloneInts_none _ _ _).mono ?_
    rintro e w' ⟨rfl, rfl⟩
    exact ⟨_, _, rfl, Shows.zero, Below.refl _ _, fun y hy => by cases hy⟩

set_option maxHeartbeats 400000 in
theorem cloneBools_some (x : Addr) (n cap : Nat) (z : Nat → Bool) (w : World) (h : Shows w (some x) n (fun i => .bool (z i))) (hn : n ≤ 1048576) :
    Calls Try.prog 23 #[.slice (some x) n cap] w fun e w' => ∃ a' cap', e = .returned (.slice a' n cap') ∧ Shows w' a' n (fun i => .bool (z i)) ∧ Below w.heap.size w w' ∧ ∀ x, a' = some x → w.heap.size ≤ x.block := by
  obtain ⟨i0, hi, hz0, hz1, hz2⟩ := info_parts Try.info4
  have hnil := fun w => Lib.run_eql_slice_nil (P := Try.prog) w 39 4 (some x) n cap 0 0 Try.underlying39
  go_enter Try.func23, Try.ntmps23
  go_wp2_with (at_make; refine wpList_make_full _ rfl _ _ 39 rfl w.heap.size 4 i0 (.bool false) 1 Try.underlying39 hi hz0 hz1 _ _ _ _ n rfl rfl rfl rfl ?b1 ?b2 ?b3 ?_)
  case b1 => rw [hz2]; omega
  case b2 => unfold maxLen; omega
  case b3 => exact Nat.le_refl _
  intro w1 hown hgrow
  have ho := own_made hown
  have hb : Below w.heap.size w w1 := (Below.refl _ _).grown hgrow (Nat.le_refl _) (fun _ h => by cases h)
  clear hown hgrow
  have h' := h.some
  clear h
  go_wp2
  go_loopw [4] (fun i wr => ∃ k : Nat, k ≤ n ∧ i = .int .i64 k ∧ Own wr w.heap.size n (fun i => if i < k then .bool (z i) else .bool false) ∧ Below w.heap.size w wr)
    (fun i _ => n - (intOf i).toNat)
  case atStart => exact ⟨0, Nat.zero_le _, rfl, ho.congr (fun i _ => by simp), hb⟩
  case round =>
    obtain ⟨k, hk, rfl, hor, hbr⟩ := hrel
    clear ho hb
    by_cases hlt : k < n
    · have hcx : wr.cell? (x.add k) = some (.bool (z k)) := by rw [hbr.cell (by rw [add_block]; exact (h' k hlt).1)]; exact (h' k hlt).2
      have hc1 := (hor.2 k hlt).1
      have hc2 := (hor.2 k hlt).2
      simp only [if_neg (Nat.lt_irrefl k)] at hc1
      have HOR : Hid (Own wr w.heap.size n (fun i => if i < k then .bool (z i) else .bool false)) := hor
      clear hor h'
      go_wp2
      go_roundw
      case rel => exact ⟨k + 1, by omega, by go_num, step_bool HOR.out hlt, hbr.setCell (Nat.le_refl _) _⟩
      case measure => simp [intOf]; omega
    · have he : k = n := by omega
      subst he
      have hsh := (hor.congr (f' := fun i => .bool (z i)) (fun i hi => by simp [hi])).shows
      clear hor h'
      go_wp2
      go_ret
      exact ⟨_, _, rfl, hsh, hbr, fun y hy => by cases hy; exact Nat.le_refl _⟩

theorem cloneBools_none (n cap : Nat) (w : World) :
    Calls Try.prog 23 #[.slice none n cap] w fun e w' => e = .returned (.slice none 0 0) ∧ w = w' := by
  have hnil := fun w => Lib.run_eql_slice_nil (P := Try.prog) w 39 4 none n cap 0 0 Try.underlying39
  go_enter Try.func23, Try.ntmps23
  go_wp2
  go_ret
  exact ⟨rfl, rfl⟩

/-- zzCloneBools: a copy of its own. -/
theorem cloneBools (a : Option Addr) (n cap : Nat) (z : Nat → Bool) (w : World) (h : Shows w a n (fun i => .bool (z i))) (hn : n ≤ 1048576) :
    Calls Try.prog 23 #[.slice a n cap] w fun e w' => ∃ a' cap', e = .returned (.slice a' n cap') ∧ Shows w' a' n (fun i => .bool (z i)) ∧ Below w.heap.size w w' ∧ ∀ x, a' = some x → w.heap.size ≤ x.block := by
  cases a with
  | some x => exact cloneBools_some x n cap z w h hn
  | none =>
    obtain rfl := h.none
    refine (cloneBools_none _ _ _).mono ?_
    rintro e w' ⟨rfl, rfl⟩
    exact ⟨_, _, rfl, Shows.zero, Below.refl _ _, fun y hy => by cases hy⟩

end Go.Proofs.Qxb6606129a
