/-
  THE WALK of zzSelB1StringsEqual at two lists that hold the same strings.
-/
import Derived.Test.Qxb6606183aSplit
import Derived.Deep.QuietTactic
import Derived.BigQuiet
import Derived.WalkSmall
namespace Go.Proofs.Qxb6606183a
open Go.RowKit

set_option maxHeartbeats 400000 in
theorem strsEq (a b : Option Addr) (l c c' : Nat) (f : Nat → ByteArray) (w : World) (hl : l ≤ 8388608) (ha : Shows w a l (fun j => .string (f j))) (hb : Shows w b l (fun j => .string (f j))) :
    Calls Try.prog 8 #[.slice a l c, .slice b l c'] w fun e w' => e = .returned (.bool true) ∧ ∃ m, w' = w.drewN m := by
  go_enter Try.func8, Try.ntmps8
  go_wp2
  go_loopw [5] (fun i wr => ∃ k : Nat, k ≤ l ∧ i = .int .i64 k ∧ ∃ m, wr = w.drewN m) (fun i _ => l - (intOf i).toNat)
  case atStart => exact ⟨0, Nat.zero_le _, rfl, 0, rfl⟩
  case round =>
    obtain ⟨k, hk, rfl, m, rfl⟩ := hrel
    by_cases hlt : k < l
    · obtain ⟨x, rfl, hx, hcx⟩ := ha k hlt
      obtain ⟨y, rfl, hy, hcy⟩ := hb k hlt
      simp only at hcx hcy
      clear ha hb hx hy
      have hk64 : (k : Int) < (l : Int) := by omega
      generalize f k = p at hcx hcy
      go_wp2
      go_quiet (fail)
      go_wp2
      go_roundw
      case rel => exact ⟨k + 1, by omega, by go_num, m + nq, rfl⟩
      case measure => simp [intOf]; omega
    · clear ha hb
      go_wp2
      go_ret
      exact ⟨rfl, m, rfl⟩

theorem strsEq_of {w : World} {a b : Option Addr} {c c' : Nat} {T : List ByteArray} (hl : T.length ≤ 8388608) (ha : Shows w a T.length (fun j => .string (T.getD j ByteArray.empty))) (hb : Shows w b T.length (fun j => .string (T.getD j ByteArray.empty))) :
    Calls Try.prog 8 #[.slice a T.length c, .slice b T.length c'] w fun e w' => e = .returned (.bool true) ∧ ∃ m, w' = w.drewN m := strsEq a b T.length c c' (fun j => T.getD j ByteArray.empty) w hl ha hb

theorem terms_length (s : ByteArray) : (terms s).length ≤ s.size + 1 := by
  unfold terms
  rw [List.length_map]
  have := length_spF (toL s) false []
  rw [toL_length] at this
  exact this
end Go.Proofs.Qxb6606183a
