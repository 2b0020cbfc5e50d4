/-
  LISTS OF BLOCKS: what memory shows of a []*[64][]int; the walks of zzBytes_FnDifferReportsTheOneChangedList and zzBlocksBudget, which only read.
-/
import Derived.Test.Qxb6606129aFits
namespace Go.Proofs.Qxb6606129a
open Go.RowKit

/-- The array of 64 lists at y: list i is L i long and holds Z i. -/
def Block (w : World) (y : Addr) (L : Nat → Nat) (Z : Nat → Nat → Int) : Prop :=
  ∃ (A : Nat → Option Addr) (C : Nat → Nat), Shows w (some y) 64 (fun i => .slice (A i) (L i) (C i)) ∧ ∀ i, i < 64 → Shows w (A i) (L i) (fun j => .int .i64 (Z i j))

/-- A slice of n pointers: pointer k is P k; where it is not nil a block lies behind it. -/
def Blocks (w : World) (a : Option Addr) (n : Nat) (P : Nat → Option Addr) (L : Nat → Nat → Nat) (Z : Nat → Nat → Nat → Int) : Prop :=
  Shows w a n (fun k => .pointer (P k)) ∧ ∀ k, k < n → ∀ y, P k = some y → Block w y (L k) (Z k)

theorem Block.below {w w' : World} {B : Nat} {y : Addr} {L : Nat → Nat} {Z : Nat → Nat → Int} (h : Block w y L Z) (hb : Below B w w') (hB : w.heap.size ≤ B) : Block w' y L Z := by
  obtain ⟨A, C, h1, h2⟩ := h
  exact ⟨A, C, h1.below hb hB, fun r hr => (h2 r hr).below hb hB⟩

theorem Blocks.below {w w' : World} {B : Nat} {a : Option Addr} {n : Nat} {P : Nat → Option Addr} {L : Nat → Nat → Nat} {Z : Nat → Nat → Nat → Int} (h : Blocks w a n P L Z) (hb : Below B w w') (hB : w.heap.size ≤ B) : Blocks w' a n P L Z :=
  ⟨h.1.below hb hB, fun k hk y hy => (h.2 k hk y hy).below hb hB⟩

theorem Blocks.zero {w : World} {a : Option Addr} {P : Nat → Option Addr} {L : Nat → Nat → Nat} {Z : Nat → Nat → Nat → Int} : Blocks w a 0 P L Z :=
  ⟨Shows.zero, fun _ h => absurd h (Nat.not_lt_zero _)⟩

set_option maxHeartbeats 1000000 in
theorem bytesReports (an p v : Int) (n c : Nat) (a : Option Addr) (P : Nat → Option Addr) (L : Nat → Nat → Nat) (Z : Nat → Nat → Nat → Int) (w : World) (hm : Blocks w a n P L Z) :
    Calls Try.prog 14 #[.slice a n c, .int .i64 an, .int .i64 p, .int .i64 v] w fun e w' => Says (fun _ => True) w e w' := by
  obtain ⟨h1, h2⟩ := hm
  by_cases hn : 1048576 < n
  · clear h1 h2
    go_enter Try.func14, Try.ntmps14
    go_wp2
    go_ret
    exact ⟨_, rfl, rfl, trivial⟩
  · have H2 : Hid (∀ k, k < n → ∀ y, P k = some y → Block w y (L k) (Z k)) := h2
    clear h2
    go_enter Try.func14, Try.ntmps14
    go_wp2
    go_loop [9, 10] (fun t i => ∃ k s : Nat, k ≤ n ∧ s ≤ 1048576 ∧ i = .int .i64 k ∧ t = .int .i64 s) (fun _ i => n - (intOf i).toNat)
    case atStart => exact ⟨0, n, Nat.zero_le _, by omega, rfl, rfl⟩
    case round =>
      obtain ⟨k, s, hk, hs, rfl, rfl⟩ := hrel
      by_cases hlt : k < n
      · obtain ⟨x, rfl, hx, hc⟩ := h1 k hlt
        have hblk := H2.out k hlt
        simp only at hc
        clear h1
        generalize P k = pk at hc hblk
        cases pk with
        | none =>
          clear hblk
          go_wp2
          go_round
          case rel => exact ⟨k + 1, s, by omega, hs, by go_num, rfl⟩
          case measure => simp [intOf]; omega
        | some y =>
          obtain ⟨A, C, g1, g2⟩ := hblk y rfl
          have g1 := g1.some
          clear g2 hblk
          go_wp2
          go_loop [9, 11] (fun t i => ∃ q s : Nat, q ≤ 64 ∧ s ≤ 1048576 ∧ i = .int .i64 q ∧ t = .int .i64 s) (fun _ i => 64 - (intOf i).toNat)
          case atStart => exact ⟨0, s, Nat.zero_le _, hs, rfl, rfl⟩
          case round =>
            obtain ⟨q, s, hq, hs, rfl, rfl⟩ := hrel
            by_cases hqm : q < 64
            · obtain ⟨hy, hcy⟩ := g1 q hqm
              clear g1
              generalize L k q = l at hcy
              generalize C q = cc at hcy
              generalize A q = aq at hcy
              go_wp2
              · go_ret
                exact ⟨_, rfl, rfl, trivial⟩
              · go_ret
                exact ⟨_, rfl, rfl, trivial⟩
              · have hsl : (s : Int) + (l : Int) ≤ 1048576 := by assumption
                go_round
                case rel => exact ⟨q + 1, s + l, by omega, by omega, by go_num, by go_num⟩
                case measure => simp [intOf]; omega
            · clear g1
              go_wp2
              go_round
              case rel => exact ⟨k + 1, s, by omega, hs, by go_num, rfl⟩
              case measure => simp [intOf]; omega
      · clear h1
        go_wp2
        go_ret
        exact ⟨_, rfl, rfl, trivial⟩

/-- It answers some int r, of which p holds; the world stands. -/
def SaysInt (p : Int → Prop) (w : World) (e : Ending) (w' : World) : Prop := ∃ r, e = .returned (.int .i64 r) ∧ w = w' ∧ p r

/-- No list of a block is long. -/
def Small (k : Nat) (P : Nat → Option Addr) (L : Nat → Nat → Nat) : Prop := ∀ r, r < k → P r ≠ none → ∀ i, i < 64 → L r i ≤ 131072

theorem small_nil {k : Nat} {P : Nat → Option Addr} {L : Nat → Nat → Nat} (h : Hid (Small k P L)) (hp : Hid (P k = none)) : Small (k + 1) P L := by
  intro r hr hne
  by_cases e : r = k
  · subst e; exact absurd hp.out hne
  · exact h.out r (by omega) hne

theorem small_some {k : Nat} {P : Nat → Option Addr} {L : Nat → Nat → Nat} (h : Hid (Small k P L)) (hl : Hid (∀ i, i < 64 → L k i ≤ 131072)) : Small (k + 1) P L := by
  intro r hr hne
  by_cases e : r = k
  · subst e; exact hl.out
  · exact h.out r (by omega) hne

theorem lists_step {f : Nat → Nat} {q : Nat} (h : Hid (∀ i, i < q → f i ≤ 131072)) (hl : f q ≤ 131072) : ∀ i, i < q + 1 → f i ≤ 131072 := by
  intro r hr
  by_cases e : r = q
  · subst e; exact hl
  · exact h.out r (by omega)

set_option maxRecDepth 100000 in
set_option maxHeartbeats 1000000 in
theorem budget (B n c : Nat) (hB : B ≤ 1048576) (a : Option Addr) (P : Nat → Option Addr) (L : Nat → Nat → Nat) (Z : Nat → Nat → Nat → Int) (w : World) (hm : Blocks w a n P L Z) :
    Calls Try.prog 8 #[.slice a n c, .int .i64 B] w fun e w' => SaysInt (fun r => r = -1 ∨ (0 ≤ r ∧ r ≤ B ∧ n ≤ 131072 ∧ Small n P L)) w e w' := by
  obtain ⟨h1, h2⟩ := hm
  by_cases hn : B / 8 < n
  · clear h1 h2
    go_enter Try.func8, Try.ntmps8
    go_wp2
    go_ret
    exact ⟨_, rfl, rfl, Or.inl rfl⟩
  · have H2 : Hid (∀ k, k < n → ∀ y, P k = some y → Block w y (L k) (Z k)) := h2
    clear h2
    go_enter Try.func8, Try.ntmps8
    go_wp2
    go_loop [1, 5] (fun t i => ∃ k s : Nat, k ≤ n ∧ s ≤ B ∧ i = .int .i64 k ∧ t = .int .i64 s ∧ Small k P L) (fun _ i => n - (intOf i).toNat)
    case atStart => exact ⟨0, B - n * 8, Nat.zero_le _, by omega, rfl, by go_num, fun _ h => absurd h (Nat.not_lt_zero _)⟩
    case round =>
      obtain ⟨k, s, hk, hs, rfl, rfl, hsm⟩ := hrel
      have HS : Hid (Small k P L) := hsm
      clear hsm
      by_cases hlt : k < n
      · obtain ⟨x, rfl, hx, hc⟩ := h1 k hlt
        have hblk := H2.out k hlt
        simp only at hc
        clear h1
        generalize hpk : P k = pk at hc hblk
        cases pk with
        | none =>
          have HN : Small (k + 1) P L := small_nil HS hpk
          clear hblk hpk
          go_wp2
          go_round
          case rel => exact ⟨k + 1, s, by omega, hs, by go_num, rfl, HN⟩
          case measure => simp [intOf]; omega
        | some y =>
          obtain ⟨A, C, g1, g2⟩ := hblk y rfl
          have g1 := g1.some
          clear g2 hblk hpk
          by_cases hs1 : s < 1536
          · clear g1
            go_wp2
            go_ret
            exact ⟨_, rfl, rfl, Or.inl rfl⟩
          · go_wp2
            go_loop [1, 7] (fun t i => ∃ q s : Nat, q ≤ 64 ∧ s ≤ B ∧ i = .int .i64 q ∧ t = .int .i64 s ∧ ∀ i, i < q → L k i ≤ 131072) (fun _ i => 64 - (intOf i).toNat)
            case atStart => exact ⟨0, s - 1536, Nat.zero_le _, by omega, rfl, by go_num, fun _ h => absurd h (Nat.not_lt_zero _)⟩
            case round =>
              obtain ⟨q, s, hq, hs, rfl, rfl, hll⟩ := hrel
              have HL : Hid (∀ i, i < q → L k i ≤ 131072) := hll
              clear hll
              by_cases hqm : q < 64
              · obtain ⟨hy, hcy⟩ := g1 q hqm
                clear g1
                have hstep := fun h : L k q ≤ 131072 => lists_step HL h
                have HSTEP : Hid (L k q ≤ 131072 → ∀ i, i < q + 1 → L k i ≤ 131072) := hstep
                clear hstep
                generalize L k q = l at hcy HSTEP
                generalize C q = cc at hcy
                generalize A q = aq at hcy
                by_cases hl : s / 8 < l
                · go_wp2
                  go_ret
                  exact ⟨_, rfl, rfl, Or.inl rfl⟩
                · go_wp2
                  go_round
                  case rel => exact ⟨q + 1, s - l * 8, by omega, by omega, by go_num, by go_num, HSTEP.out (by omega)⟩
                  case measure => simp [intOf]; omega
              · have hq64 : q = 64 := by omega
                subst hq64
                clear g1
                go_wp2
                go_round
                case rel => exact ⟨k + 1, s, by omega, hs, by go_num, rfl, small_some HS HL⟩
                case measure => simp [intOf]; omega
      · have he : k = n := by omega
        subst he
        clear h1
        go_wp2
        go_ret
        exact ⟨_, rfl, rfl, Or.inr ⟨by omega, by omega, by omega, HS.out⟩⟩
end Go.Proofs.Qxb6606129a
