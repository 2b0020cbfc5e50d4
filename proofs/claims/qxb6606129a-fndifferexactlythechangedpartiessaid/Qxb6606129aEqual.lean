/-
  THE WALK of slices.Equal at []int: it reads (in whatever order) and answers whether the two lists are one.
-/
import Derived.Test.Qxb6606129aClone
import Derived.Deep.QuietTactic
import Derived.BigQuiet
namespace Go.Proofs.Qxb6606129a
open Go.RowKit

/-- Are the two lists one? -/
def eqL (l : Nat) (z : Nat → Int) (l' : Nat) (z' : Nat → Int) : Bool := decide (l = l' ∧ ∀ j, j < l → z j = z' j)

theorem eqL_no {l l' : Nat} {z z' : Nat → Int} (h : ¬ l = l') : eqL l z l' z' = false := by
  unfold eqL
  rw [decide_eq_false_iff_not]
  exact fun c => h c.1

theorem eqL_yes {l : Nat} {z z' : Nat → Int} (h : ∀ j, j < l → z j = z' j) : eqL l z l z' = true := by
  unfold eqL
  rw [decide_eq_true_eq]
  exact ⟨rfl, h⟩

theorem eqL_at {l k : Nat} {z z' : Nat → Int} (hk : k < l) (h : ¬ z k = z' k) : eqL l z l z' = false := by
  unfold eqL
  rw [decide_eq_false_iff_not]
  exact fun c => h (c.2 k hk)

theorem same_step {k : Nat} {z z' : Nat → Int} (h : Hid (∀ j, j < k → z j = z' j)) (e : z k = z' k) : ∀ j, j < k + 1 → z j = z' j := by
  intro j hj
  by_cases c : j = k
  · subst c; exact e
  · exact h.out j (by omega)

theorem ret_bool {a b : Bool} (h : a = b) : Ending.returned (.bool a) = .returned (.bool b) := by rw [h]

set_option maxHeartbeats 400000 in
theorem equal_walk (a b : Option Addr) (l c c' : Nat) (z z' : Nat → Int) (w : World) (hl : l ≤ 1048577) (ha : Shows w a l (fun j => .int .i64 (z j))) (hb : Shows w b l (fun j => .int .i64 (z' j))) :
    Calls Try.prog 25 #[.slice a l c, .slice b l c'] w fun e w' => e = .returned (.bool (eqL l z l z')) ∧ ∃ m, w' = w.drewN m := by
  go_enter Try.func25, Try.ntmps25
  go_wp2
  go_loopw [13] (fun i wr => ∃ k : Nat, k ≤ l ∧ i = .int .i64 k ∧ (∀ j, j < k → z j = z' j) ∧ ∃ m, wr = w.drewN m) (fun i _ => l - (intOf i).toNat)
  case atStart => exact ⟨0, Nat.zero_le _, rfl, fun _ h => absurd h (Nat.not_lt_zero _), 0, rfl⟩
  case round =>
    obtain ⟨k, hk, rfl, hs, m, rfl⟩ := hrel
    have HS : Hid (∀ j, j < k → z j = z' j) := hs
    clear hs
    by_cases hlt : k < l
    · obtain ⟨x, rfl, hx, hcx⟩ := ha k hlt
      obtain ⟨y, rfl, hy, hcy⟩ := hb k hlt
      simp only at hcx hcy
      clear ha hb hx hy
      have hk64 : (k : Int) < (l : Int) := by omega
      by_cases he : z k = z' k
      · have hne : (z k != z' k) = false := by simp [he]
        have HN : Hid (∀ j, j < k + 1 → z j = z' j) := same_step HS he
        clear he HS
        generalize z k = p at hcx hne
        generalize z' k = q at hcy hne
        go_wp2
        go_quiet (fail)
        go_wp2
        go_roundw
        case rel => exact ⟨k + 1, by omega, by go_num, HN.out, m + nq, rfl⟩
        case measure => simp [intOf]; omega
      · have hne : (z k != z' k) = true := by simp [he]
        have hno := eqL_at hlt he
        clear he
        generalize z k = p at hcx hne
        generalize z' k = q at hcy hne
        go_wp2
        go_quiet (fail)
        go_wp2
        go_ret
        exact ⟨ret_bool hno.symm, m + nq, by rw [World.drewN_drewN]⟩
    · have he : k = l := by omega
      subst he
      have hyes := eqL_yes HS.out
      clear ha hb
      go_wp2
      go_ret
      exact ⟨ret_bool hyes.symm, m, rfl⟩

theorem equal_len (a b : Option Addr) (l c l' c' : Nat) (w : World) (h : ¬ l = l') :
    Calls Try.prog 25 #[.slice a l c, .slice b l' c'] w fun e w' => e = .returned (.bool false) ∧ w = w' := by
  have hne : ((l : Int) != (l' : Int)) = true := by simp; omega
  go_enter Try.func25, Try.ntmps25
  go_wp2
  go_ret
  exact ⟨rfl, rfl⟩

/-- slices.Equal: it reads; it draws. -/
theorem equal (a b : Option Addr) (l c l' c' : Nat) (z z' : Nat → Int) (w : World) (hl : l ≤ 1048577) (ha : Shows w a l (fun j => .int .i64 (z j))) (hb : Shows w b l' (fun j => .int .i64 (z' j))) :
    Calls Try.prog 25 #[.slice a l c, .slice b l' c'] w fun e w' => e = .returned (.bool (eqL l z l' z')) ∧ ∃ m, w' = w.drewN m := by
  by_cases h : l = l'
  · subst h
    exact equal_walk a b l c c' z z' w hl ha hb
  · refine (equal_len a b l c l' c' w h).mono ?_
    rintro e w' ⟨rfl, rfl⟩
    exact ⟨by rw [eqL_no h], 0, rfl⟩
end Go.Proofs.Qxb6606129a
