/-
  THE WALK of zzBytes_FnDifferExactlyTheChangedParties: it reads, and answers some bool.
-/
import Derived.Test.Qxb6606129aBlocks
namespace Go.Proofs.Qxb6606129a
open Go.RowKit

set_option maxRecDepth 100000 in
set_option maxHeartbeats 2000000 in
theorem bytesExactly (an bn : Int) (na ca nb cb : Nat) (aa ab : Option Addr) (Pa Pb : Nat → Option Addr) (La Lb : Nat → Nat → Nat) (Za Zb : Nat → Nat → Nat → Int) (w : World) (hA : Blocks w aa na Pa La Za) (hB : Blocks w ab nb Pb Lb Zb) :
    Calls Try.prog 7 #[.slice aa na ca, .int .i64 an, .slice ab nb cb, .int .i64 bn] w fun e w' => Says (fun _ => True) w e w' := by
  obtain ⟨ha1, ha2⟩ := hA
  obtain ⟨hb1, hb2⟩ := hB
  by_cases hn : 1048576 < na
  · clear ha1 ha2 hb1 hb2
    go_enter Try.func7, Try.ntmps7
    go_wp2
    go_ret
    exact ⟨_, rfl, rfl, trivial⟩
  · have Ha2 : Hid (∀ k, k < na → ∀ y, Pa k = some y → Block w y (La k) (Za k)) := ha2
    have Hb2 : Hid (∀ k, k < nb → ∀ y, Pb k = some y → Block w y (Lb k) (Zb k)) := hb2
    clear ha2 hb2
    go_enter Try.func7, Try.ntmps7
    go_wp2
    go_loop [9, 10] (fun t i => ∃ k s : Nat, k ≤ na ∧ s ≤ 1048576 ∧ i = .int .i64 k ∧ t = .int .i64 s) (fun _ i => na - (intOf i).toNat)
    case atStart => exact ⟨0, na, Nat.zero_le _, by omega, rfl, by go_num⟩
    case round =>
      obtain ⟨k, s, hk, hs, rfl, rfl⟩ := hrel
      by_cases hlt : k < na
      · obtain ⟨x, rfl, hx, hc⟩ := ha1 k hlt
        have hblk := Ha2.out k hlt
        simp only at hc
        clear ha1 hb1
        generalize Pa k = pk at hc hblk
        cases pk with
        | none =>
          clear hblk
          go_wp2
          go_round
          case rel => exact ⟨k + 1, s, by omega, hs, by go_num, rfl⟩
          case measure => simp [intOf]; omega
        | some y =>
          obtain ⟨A, C, g1, g2⟩ := hblk y rfl
          have g1 := g1.some
          clear g2 hblk
          go_wp2
          go_loop [9, 11] (fun t i => ∃ q s : Nat, q ≤ 64 ∧ s ≤ 1048576 ∧ i = .int .i64 q ∧ t = .int .i64 s) (fun _ i => 64 - (intOf i).toNat)
          case atStart => exact ⟨0, s, Nat.zero_le _, hs, rfl, rfl⟩
          case round =>
            obtain ⟨q, s, hq, hs, rfl, rfl⟩ := hrel
            by_cases hqm : q < 64
            · obtain ⟨hy, hcy⟩ := g1 q hqm
              clear g1
              generalize La k q = l at hcy
              generalize C q = cc at hcy
              generalize A q = aq at hcy
              go_wp2
              · go_ret
                exact ⟨_, rfl, rfl, trivial⟩
              · go_ret
                exact ⟨_, rfl, rfl, trivial⟩
              · have hsl : (s : Int) + (l : Int) ≤ 1048576 := by assumption
                go_round
                case rel => exact ⟨q + 1, s + l, by omega, by omega, by go_num, by go_num⟩
                case measure => simp [intOf]; omega
            · clear g1
              go_wp2
              go_round
              case rel => exact ⟨k + 1, s, by omega, hs, by go_num, rfl⟩
              case measure => simp [intOf]; omega
      · clear ha1
        obtain ⟨s0, hs0⟩ : ∃ s0 : Nat, s0 = s := ⟨s, rfl⟩
        subst hs0
        by_cases hn2 : 1048576 < nb
        · clear hb1
          go_wp2
          go_ret
          exact ⟨_, rfl, rfl, trivial⟩
        by_cases hn3 : 1048576 < s0 + nb
        · clear hb1
          go_wp2
          go_ret
          exact ⟨_, rfl, rfl, trivial⟩
        go_wp2
        go_loop [9, 12] (fun t i => ∃ k s : Nat, k ≤ nb ∧ s ≤ 1048576 ∧ i = .int .i64 k ∧ t = .int .i64 s) (fun _ i => nb - (intOf i).toNat)
        case atStart => exact ⟨0, s0 + nb, Nat.zero_le _, by omega, rfl, by go_num⟩
        case round =>
          obtain ⟨k, s, hk, hs, rfl, rfl⟩ := hrel
          by_cases hlt : k < nb
          · obtain ⟨x, rfl, hx, hc⟩ := hb1 k hlt
            have hblk := Hb2.out k hlt
            simp only at hc
            clear hb1
            generalize Pb k = pk at hc hblk
            cases pk with
            | none =>
              clear hblk
              go_wp2
              go_round
              case rel => exact ⟨k + 1, s, by omega, hs, by go_num, rfl⟩
              case measure => simp [intOf]; omega
            | some y =>
              obtain ⟨A, C, g1, g2⟩ := hblk y rfl
              have g1 := g1.some
              clear g2 hblk
              go_wp2
              go_loop [9, 13] (fun t i => ∃ q s : Nat, q ≤ 64 ∧ s ≤ 1048576 ∧ i = .int .i64 q ∧ t = .int .i64 s) (fun _ i => 64 - (intOf i).toNat)
              case atStart => exact ⟨0, s, Nat.zero_le _, hs, rfl, rfl⟩
              case round =>
                obtain ⟨q, s, hq, hs, rfl, rfl⟩ := hrel
                by_cases hqm : q < 64
                · obtain ⟨hy, hcy⟩ := g1 q hqm
                  clear g1
                  generalize Lb k q = l at hcy
                  generalize C q = cc at hcy
                  generalize A q = aq at hcy
                  go_wp2
                  · go_ret
                    exact ⟨_, rfl, rfl, trivial⟩
                  · go_ret
                    exact ⟨_, rfl, rfl, trivial⟩
                  · have hsl : (s : Int) + (l : Int) ≤ 1048576 := by assumption
                    go_round
                    case rel => exact ⟨q + 1, s + l, by omega, by omega, by go_num, by go_num⟩
                    case measure => simp [intOf]; omega
                · clear g1
                  go_wp2
                  go_round
                  case rel => exact ⟨k + 1, s, by omega, hs, by go_num, rfl⟩
                  case measure => simp [intOf]; omega
          · clear hb1
            go_wp2
            go_ret
            exact ⟨_, rfl, rfl, trivial⟩
end Go.Proofs.Qxb6606129a
