/-
  THE WALKS of zzBytes_FnSplitTermsInvertsEscapedJoin and zzSelB1Spend: they only read.
-/
import Derived.Test.Qxb6606183aSplit
namespace Go.Proofs.Qxb6606183a
open Go.RowKit

/-- It answers some bool; the world stands. -/
def Says (w : World) (e : Ending) (w' : World) : Prop := ∃ b, e = .returned (.bool b) ∧ w = w'
/-- It answers some int r, of which p holds; the world stands. -/
def SaysInt (p : Int → Prop) (w : World) (e : Ending) (w' : World) : Prop := ∃ r, e = .returned (.int .i64 r) ∧ w = w' ∧ p r

/-- The lengths of the first k strings, added up. -/
def sumTo (f : Nat → ByteArray) : Nat → Nat
  | 0 => 0
  | k + 1 => sumTo f k + (f k).size

set_option maxHeartbeats 1000000 in
theorem bytesJ (n c : Nat) (a : Option Addr) (f : Nat → ByteArray) (w : World) (h1 : Shows w a n (fun i => .string (f i))) :
    Calls Try.prog 11 #[.slice a n c] w fun e w' => Says w e w' := by
  by_cases hn : 1048576 < n
  · clear h1
    go_enter Try.func11, Try.ntmps11
    go_wp2
    go_ret
    exact ⟨_, rfl, rfl⟩
  · go_enter Try.func11, Try.ntmps11
    go_wp2
    go_loop [3, 4] (fun t i => ∃ k s : Nat, k ≤ n ∧ s ≤ 1048576 ∧ i = .int .i64 k ∧ t = .int .i64 s) (fun _ i => n - (intOf i).toNat)
    case atStart => exact ⟨0, n, Nat.zero_le _, by omega, rfl, rfl⟩
    case round =>
      obtain ⟨k, s, hk, hs, rfl, rfl⟩ := hrel
      by_cases hlt : k < n
      · obtain ⟨x, rfl, hx, hc⟩ := h1 k hlt
        simp only at hc
        clear h1
        generalize f k = b at hc
        go_wp2
        · go_ret
          exact ⟨_, rfl, rfl⟩
        · go_ret
          exact ⟨_, rfl, rfl⟩
        · have hsl : (s : Int) + (b.size : Int) ≤ 1048576 := by assumption
          go_round
          case rel => exact ⟨k + 1, s + b.size, by omega, by omega, by go_num, by go_num⟩
          case measure => simp [intOf]; omega
      · clear h1
        go_wp2
        go_ret
        exact ⟨_, rfl, rfl⟩

set_option maxRecDepth 100000 in
set_option maxHeartbeats 1000000 in
theorem spend (n c : Nat) (a : Option Addr) (f : Nat → ByteArray) (w : World) (h1 : Shows w a n (fun i => .string (f i))) :
    Calls Try.prog 12 #[.slice a n c, .int .i64 1048576] w fun e w' => SaysInt (fun r => r = -1 ∨ (0 ≤ r ∧ n ≤ 131072 ∧ sumTo f n ≤ 1048576 ∧ ∀ k, k < n → (f k).size ≤ 1048576)) w e w' := by
  by_cases hn : 131072 < n
  · clear h1
    go_enter Try.func12, Try.ntmps12
    go_wp2
    go_ret
    exact ⟨_, rfl, rfl, Or.inl rfl⟩
  · go_enter Try.func12, Try.ntmps12
    go_wp2
    go_loop [1, 5] (fun t i => ∃ k s : Nat, k ≤ n ∧ s + sumTo f k ≤ 1048576 ∧ i = .int .i64 k ∧ t = .int .i64 s ∧ ∀ r, r < k → (f r).size ≤ 1048576) (fun _ i => n - (intOf i).toNat)
    case atStart => exact ⟨0, 1048576 - 8 * n, Nat.zero_le _, by simp [sumTo], rfl, by go_num, fun _ h => absurd h (Nat.not_lt_zero _)⟩
    case round =>
      obtain ⟨k, s, hk, hs, rfl, rfl, hr⟩ := hrel
      have HS : Hid (s + sumTo f k ≤ 1048576) := hs
      have HR : Hid (∀ r, r < k → (f r).size ≤ 1048576) := hr
      have hs1 : s ≤ 1048576 := by omega
      clear hs hr
      by_cases hlt : k < n
      · obtain ⟨x, rfl, hx, hc⟩ := h1 k hlt
        simp only at hc
        clear h1
        by_cases hl : s < (f k).size
        · generalize f k = b at hc hl
          go_wp2
          go_ret
          exact ⟨_, rfl, rfl, Or.inl rfl⟩
        · have HN : Hid (s - (f k).size + sumTo f (k + 1) ≤ 1048576) := by
            show s - (f k).size + (sumTo f k + (f k).size) ≤ 1048576
            have := HS.out
            omega
          have HRN : Hid (∀ r, r < k + 1 → (f r).size ≤ 1048576) := fun r hr => by
            by_cases e : r = k
            · subst e; omega
            · exact HR.out r (by omega)
          generalize f k = b at hc hl HN
          go_wp2
          go_round
          case rel => exact ⟨k + 1, s - b.size, by omega, HN.out, by go_num, by go_num, HRN.out⟩
          case measure => simp [intOf]; omega
      · have he : k = n := by omega
        subst he
        clear h1
        go_wp2
        go_ret
        exact ⟨_, rfl, rfl, Or.inr ⟨by omega, by omega, by have := HS.out; omega, HR.out⟩⟩
end Go.Proofs.Qxb6606183a
