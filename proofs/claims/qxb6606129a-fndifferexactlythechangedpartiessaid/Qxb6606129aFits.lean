/-
  THE WALKS of zzBytes_FnUnionIsTheOrOfTheUsedSteps and zzUnionFits.
-/
import Derived.Test.Qxb6606129aMet
namespace Go.Proofs.Qxb6606129a
open Go.RowKit

/-- It answers some bool b, of which p holds; the world stands. -/
def Says (p : Bool → Prop) (w : World) (e : Ending) (w' : World) : Prop := ∃ b, e = .returned (.bool b) ∧ w = w' ∧ p b

set_option maxHeartbeats 1000000 in
theorem bytesUnion (n : Int) (nm cm mu cu : Nat) (am au : Option Addr) (L : Nat → Nat) (Z : Nat → Nat → Bool) (w : World) (hm : Grid w am nm L Z) :
    Calls Try.prog 16 #[.int .i64 n, .slice am nm cm, .slice au mu cu] w fun e w' => Says (fun _ => True) w e w' := by
  obtain ⟨A, C, h1, h2⟩ := hm
  clear h2
  by_cases hn : 1048576 < nm
  · clear h1
    go_enter Try.func16, Try.ntmps16
    go_wp2
    go_ret
    exact ⟨_, rfl, rfl, trivial⟩
  · go_enter Try.func16, Try.ntmps16
    go_wp2
    go_loop [7, 8] (fun t i => ∃ k s : Nat, k ≤ nm ∧ s ≤ 1048576 ∧ i = .int .i64 k ∧ t = .int .i64 s) (fun _ i => nm - (intOf i).toNat)
    case atStart => exact ⟨0, nm, Nat.zero_le _, by omega, rfl, rfl⟩
    case round =>
      obtain ⟨k, s, hk, hs, rfl, rfl⟩ := hrel
      by_cases hlt : k < nm
      · obtain ⟨x, rfl, hx, hc⟩ := h1 k hlt
        clear h1
        go_wp2
        · go_ret
          exact ⟨_, rfl, rfl, trivial⟩
        · go_ret
          exact ⟨_, rfl, rfl, trivial⟩
        · have h1 : (L k : Int) ≤ 1048576 := by assumption
          go_round
          case rel => exact ⟨k + 1, s + L k, by omega, by omega, by go_num, by go_num⟩
          case measure => simp [intOf]; omega
      · clear h1
        go_wp2
        all_goals (go_ret; exact ⟨_, rfl, rfl, trivial⟩)

/-- What zzUnionFits has seen when it says yes. -/
def Fits (n : Int) (nm mu : Nat) (L : Nat → Nat) (z : Nat → Int) : Prop :=
  0 ≤ n ∧ n ≤ 65536 ∧ mu ≤ 4096 ∧ nm ≤ 43690 ∧ (∀ r, r < nm → L r ≤ 1048576) ∧ ∀ k, k < mu → 0 ≤ z k ∧ z k < nm ∧ (L (z k).toNat : Int) ≤ n

theorem rows_step {L : Nat → Nat} {k : Nat} (h : Hid (∀ r, r < k → L r ≤ 1048576)) (hk : L k ≤ 1048576) : ∀ r, r < k + 1 → L r ≤ 1048576 := by
  intro r hr
  by_cases e : r = k
  · subst e; exact hk
  · exact h.out r (by omega)

theorem uses_step {n : Int} {nm k j : Nat} {L : Nat → Nat} {z : Nat → Int} (h : Hid (∀ i, i < k → 0 ≤ z i ∧ z i < nm ∧ (L (z i).toNat : Int) ≤ n)) (hz : Hid (z k = (j : Nat))) (h1 : j < nm) (h2 : (L j : Int) ≤ n) :
    ∀ i, i < k + 1 → 0 ≤ z i ∧ z i < nm ∧ (L (z i).toNat : Int) ≤ n := by
  intro r hr
  by_cases e : r = k
  · subst e
    rw [hz.out]
    exact ⟨by omega, by omega, by simpa using h2⟩
  · exact h.out r (by omega)

set_option maxHeartbeats 1000000 in
theorem fitsUnion (n : Int) (nm cm mu cu : Nat) (am au : Option Addr) (L : Nat → Nat) (Z : Nat → Nat → Bool) (z : Nat → Int) (w : World) (hm : Grid w am nm L Z) (hu : Shows w au mu (fun i => .int .i64 (z i))) :
    Calls Try.prog 17 #[.int .i64 n, .slice am nm cm, .slice au mu cu] w fun e w' => Says (fun b => b = true → Fits n nm mu L z) w e w' := by
  obtain ⟨A, C, h1, h2⟩ := hm
  clear h2
  by_cases hn0 : n < 0
  · clear h1 hu
    go_enter Try.func17, Try.ntmps17
    go_wp2
    go_ret
    exact ⟨_, rfl, rfl, fun h => by cases h⟩
  by_cases hn1 : 65536 < n
  · clear h1 hu
    go_enter Try.func17, Try.ntmps17
    go_wp2
    go_ret
    exact ⟨_, rfl, rfl, fun h => by cases h⟩
  by_cases hmu : 4096 < mu
  · clear h1 hu
    go_enter Try.func17, Try.ntmps17
    go_wp2
    go_ret
    exact ⟨_, rfl, rfl, fun h => by cases h⟩
  by_cases hnm : 43690 < nm
  · clear h1 hu
    go_enter Try.func17, Try.ntmps17
    go_wp2
    go_ret
    exact ⟨_, rfl, rfl, fun h => by cases h⟩
  by_cases hbu : 1048576 < nm * 24 + mu * 8
  · clear h1 hu
    go_enter Try.func17, Try.ntmps17
    go_wp2
    go_ret
    exact ⟨_, rfl, rfl, fun h => by cases h⟩
  go_enter Try.func17, Try.ntmps17
  go_wp2
  go_loop [7, 8] (fun t i => ∃ k s : Nat, k ≤ nm ∧ s ≤ 1048576 ∧ i = .int .i64 k ∧ t = .int .i64 s ∧ ∀ r, r < k → L r ≤ 1048576) (fun _ i => nm - (intOf i).toNat)
  case atStart => exact ⟨0, 1048576 - nm * 24 - mu * 8, Nat.zero_le _, by omega, rfl, by go_num, fun _ h => absurd h (Nat.not_lt_zero _)⟩
  case round =>
    obtain ⟨k, s, hk, hs, rfl, rfl, hr⟩ := hrel
    have HR : Hid (∀ r, r < k → L r ≤ 1048576) := hr
    clear hr
    by_cases hlt : k < nm
    · obtain ⟨x, rfl, hx, hc⟩ := h1 k hlt
      clear h1 hu
      by_cases hl : s < L k
      · go_wp2
        go_ret
        exact ⟨_, rfl, rfl, fun h => by cases h⟩
      · go_wp2
        go_round
        case rel => exact ⟨k + 1, s - L k, by omega, by omega, by go_num, by go_num, rows_step HR (by omega)⟩
        case measure => simp [intOf]; omega
    · have he : k = nm := by omega
      subst he
      go_wp2
      go_loop [9] (fun i => ∃ q : Nat, q ≤ mu ∧ i = .int .i64 q ∧ ∀ i, i < q → 0 ≤ z i ∧ z i < k ∧ (L (z i).toNat : Int) ≤ n) (fun i => mu - (intOf i).toNat)
      case atStart => exact ⟨0, Nat.zero_le _, rfl, fun _ h => absurd h (Nat.not_lt_zero _)⟩
      case round =>
        obtain ⟨q, hq, rfl, hg⟩ := hrel
        have HG : Hid (∀ i, i < q → 0 ≤ z i ∧ z i < k ∧ (L (z i).toNat : Int) ≤ n) := hg
        clear hg
        by_cases hqm : q < mu
        · obtain ⟨y, rfl, hy, hc⟩ := hu q hqm
          clear hu
          simp only at hc
          generalize hv : z q = v at hc
          have HV : Hid (z q = v) := hv
          clear hv
          by_cases hv0 : v < 0
          · clear h1
            go_wp2
            go_ret
            exact ⟨_, rfl, rfl, fun h => by cases h⟩
          by_cases hv1 : (k : Int) ≤ v
          · clear h1
            go_wp2
            go_ret
            exact ⟨_, rfl, rfl, fun h => by cases h⟩
          obtain ⟨j, rfl⟩ := Int.eq_ofNat_of_zero_le (show 0 ≤ v by omega)
          have hj : j < k := by omega
          obtain ⟨x, rfl, hx, hcx⟩ := h1 j hj
          clear h1
          by_cases hL : n < (L j : Int)
          · go_wp2
            go_ret
            exact ⟨_, rfl, rfl, fun h => by cases h⟩
          · go_wp2
            go_round
            case rel => exact ⟨q + 1, by omega, by go_num, uses_step HG HV hj (by omega)⟩
            case measure => simp [intOf]; omega
        · have he : q = mu := by omega
          subst he
          clear h1 hu
          go_wp2
          go_ret
          exact ⟨_, rfl, rfl, fun _ => ⟨by omega, by omega, by omega, by omega, HR.out, HG.out⟩⟩
end Go.Proofs.Qxb6606129a
