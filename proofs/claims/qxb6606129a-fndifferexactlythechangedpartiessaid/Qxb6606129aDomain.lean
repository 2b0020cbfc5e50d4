/-
  THE WALK of zzDifferDomain: it reads and compares pointers that came in, in whatever memory.
-/
import Derived.Test.Qxb6606129aBlocks
import Derived.Test.Qxb6606129aCut
import Derived.Test.Qxb6606129aPtr
namespace Go.Proofs.Qxb6606129a
open Go.RowKit

/-- It answers some bool b, of which p holds; some draws. -/
def SaysD (p : Bool → Prop) (w : World) (e : Ending) (w' : World) : Prop := ∃ b m, e = .returned (.bool b) ∧ w' = w.drewN m ∧ p b

/-- Where the one is nil so is the other. -/
def Both (n : Nat) (Pa Pb : Nat → Option Addr) : Prop := ∀ k, k < n → (Pa k = none ↔ Pb k = none)

theorem both_step {k : Nat} {Pa Pb : Nat → Option Addr} (h : Hid (Both k Pa Pb)) (hk : Pa k = none ↔ Pb k = none) : Both (k + 1) Pa Pb := by
  intro r hr
  by_cases e : r = k
  · subst e; exact hk
  · exact h.out r (by omega)

theorem Try.info33d : (Try.prog.info? 33).map (fun i => i.size) = some 64 := by kernel_rfl

set_option maxRecDepth 100000 in
set_option maxHeartbeats 1000000 in
theorem domain_walk (na ca nb cb : Nat) (aa ab : Option Addr) (Pa Pb : Nat → Option Addr) (La Lb : Nat → Nat → Nat) (Za Zb : Nat → Nat → Nat → Int) (w : World)
    (hA : Blocks w aa na Pa La Za) (hB : Blocks w ab nb Pb Lb Zb) (hn : na ≤ nb) (hna : na ≤ 131072) (hF : ∀ k, k < na → ∀ y, Pa k = some y → w.frozen? y = false) :
    Calls Try.prog 9 #[.slice aa na ca, .slice ab nb cb] w fun e w' => SaysD (fun b => b = true → Both na Pa Pb) w e w' := by
  obtain ⟨hA1, hA2⟩ := hA
  obtain ⟨hB1, hB2⟩ := hB
  have HA2 : Hid (∀ k, k < na → ∀ y, Pa k = some y → Block w y (La k) (Za k)) := hA2
  have HB2 : Hid (∀ k, k < nb → ∀ y, Pb k = some y → Block w y (Lb k) (Zb k)) := hB2
  have HF : Hid (∀ k, k < na → ∀ y, Pa k = some y → w.frozen? y = false) := hF
  clear hA2 hB2 hF
  have hd0 : decide (nb < na) = false := by simp; omega
  go_enter Try.func9, Try.ntmps9
  go_wp2
  go_loopw [5] (fun i wr => ∃ k : Nat, k ≤ na ∧ i = .int .i64 k ∧ Both k Pa Pb ∧ ∃ m, wr = w.drewN m) (fun i _ => na - (intOf i).toNat)
  case atStart => exact ⟨0, Nat.zero_le _, rfl, fun _ h => absurd h (Nat.not_lt_zero _), 0, rfl⟩
  case round =>
    obtain ⟨k, hk, rfl, hbo, m, rfl⟩ := hrel
    have HBO : Hid (Both k Pa Pb) := hbo
    clear hbo
    by_cases hlt : k < na
    · obtain ⟨xa, rfl, hxa, hca⟩ := hA1 k hlt
      obtain ⟨xb, rfl, hxb, hcb⟩ := hB1 k (by omega)
      have hkb : k < nb := by omega
      have hki : (k : Int) < (na : Int) := by omega
      have hkj : (k : Int) < (nb : Int) := by omega
      simp only at hca hcb
      have hAk := HA2.out k hlt
      have hBk := HB2.out k hkb
      have hFk := HF.out k hlt
      have hstep : Hid ((Pa k = none ↔ Pb k = none) → Both (k + 1) Pa Pb) := both_step HBO
      clear hA1 hB1 hxa hxb HA2 HB2 HF
      generalize Pa k = pa at hca hAk hFk hstep
      generalize Pb k = pb at hcb hBk hstep
      cases pa with
      | none =>
        cases pb with
        | none =>
          have HN : Hid (Both (k + 1) Pa Pb) := hstep.out Iff.rfl
          clear hAk hBk hFk hstep
          go_wp2
          go_quiet (fail)
          go_wp2
          go_roundw
          case rel => exact ⟨k + 1, by omega, by go_num, HN.out, m + nq, rfl⟩
          case measure => simp [intOf]; omega
        | some z =>
          have hnz := fun w => run_neq_nil_some (P := Try.prog) w (tp := 30) z Try.underlying30
          clear hAk hBk hFk hstep
          go_wp2
          go_quiet (fail)
          go_wp2
          go_ret
          exact ⟨_, m + nq, rfl, World.drewN_drewN _ _ _, fun h => by cases h⟩
      | some y =>
        cases pb with
        | none =>
          clear hAk hBk hFk hstep
          go_wp2
          go_quiet (fail)
          go_wp2
          go_ret
          exact ⟨_, m + nq, rfl, World.drewN_drewN _ _ _, fun h => by cases h⟩
        | some z =>
          obtain ⟨j33, hj33, hs33⟩ := Option.map_eq_some_iff.1 Try.info33d
          obtain ⟨A, C, g1, _⟩ := hAk y rfl
          obtain ⟨A', C', g2, _⟩ := hBk z rfl
          have hcy := (g1.some 0 (by omega)).2
          have hcz := (g2.some 0 (by omega)).2
          rw [show y.add 0 = y from rfl] at hcy
          rw [show z.add 0 = z from rfl] at hcz
          obtain ⟨r, m2, _, hneq⟩ := run_eql_any (P := Try.prog) (w.drewN (m + 1)) (tp := 30) Try.underlying30 hj33 (by omega) (y := y) (z := z) hcy hcz (hFk y rfl)
          rw [World.drewN_drewN] at hneq
          have HN : Hid (Both (k + 1) Pa Pb) := hstep.out (by simp)
          clear hAk hBk hFk hstep g1 g2 hcy hcz hj33 hs33
          go_wp2
          refine wp_region_cut 8 _ rfl (by kernel_rfl) (by kernel_rfl) ?_
          simp only [List.take_succ_cons, List.take_zero]
          repeat (go_big_quiet_step (fail))
          refine wpQuiet_nil ?_
          refine ⟨.bool (!r), 1 + m2, rfl, ?_, ?_⟩
          · rw [← World.drewN_drewN]
            clear hca hcb
            go_simp
          · simp only [List.drop_succ_cons, List.drop_zero]
            clear hneq
            cases r
            · quiet_step (fail)
              repeat (go_big_quiet_step (fail))
              refine wpQuiet_nil ?_
              intro _ hw'
              obtain ⟨nq, hw''⟩ := hw'
              subst hw''
              go_wp2
              go_roundw
              case rel => exact ⟨k + 1, by omega, by go_num, HN.out, m + nq, rfl⟩
              case measure => simp [intOf]; omega
            · quiet_step (fail)
              repeat (go_big_quiet_step (fail))
              refine wpQuiet_nil ?_
              intro _ hw'
              obtain ⟨nq, hw''⟩ := hw'
              subst hw''
              go_wp2
              go_roundw
              case rel => exact ⟨k + 1, by omega, by go_num, HN.out, m + nq, rfl⟩
              case measure => simp [intOf]; omega
    · have he : k = na := by omega
      subst he
      clear hA1 hB1
      go_wp2
      go_ret
      exact ⟨_, m, rfl, rfl, fun _ => HBO.out⟩

theorem domain_short (na ca nb cb : Nat) (aa ab : Option Addr) (w : World) (hn : nb < na) :
    Calls Try.prog 9 #[.slice aa na ca, .slice ab nb cb] w fun e w' => e = .returned (.bool false) ∧ w = w' := by
  go_enter Try.func9, Try.ntmps9
  go_wp2
  go_ret
  exact ⟨rfl, rfl⟩

/-- zzDifferDomain. -/
theorem domain (na ca nb cb : Nat) (aa ab : Option Addr) (Pa Pb : Nat → Option Addr) (La Lb : Nat → Nat → Nat) (Za Zb : Nat → Nat → Nat → Int) (w : World)
    (hA : Blocks w aa na Pa La Za) (hB : Blocks w ab nb Pb Lb Zb) (hna : na ≤ 131072) (hF : ∀ k, k < na → ∀ y, Pa k = some y → w.frozen? y = false) :
    Calls Try.prog 9 #[.slice aa na ca, .slice ab nb cb] w fun e w' => SaysD (fun b => b = true → na ≤ nb ∧ Both na Pa Pb) w e w' := by
  by_cases hn : na ≤ nb
  · refine (domain_walk na ca nb cb aa ab Pa Pb La Lb Za Zb w hA hB hn hna hF).mono ?_
    rintro e w' ⟨b, m, rfl, rfl, hb⟩
    exact ⟨b, m, rfl, rfl, fun h => ⟨hn, hb h⟩⟩
  · refine (domain_short na ca nb cb aa ab w (by omega)).mono ?_
    rintro e w' ⟨rfl, rfl⟩
    exact ⟨false, 0, rfl, rfl, fun h => by cases h⟩
end Go.Proofs.Qxb6606129a
