/-
  THE WALK of FnUnionIsTheOrOfTheUsedSteps.
-/
import Derived.Test.Qxb6606129aUnion
import Derived.Test.Qxb6606129aFits
namespace Go.Proofs.Qxb6606129a
open Go.RowKit

theorem or_mono {U L : Nat → Nat} {Z : Nat → Nat → Bool} {x k : Nat} (h : orUp U L Z k x = true) : ∀ m, orUp U L Z (k + m) x = true
  | 0 => h
  | m + 1 => by
    have := or_mono h m
    show (orUp U L Z (k + m) x || _) = true
    rw [this]; rfl

theorem or_late {U L : Nat → Nat} {Z : Nat → Nat → Bool} {x k mu : Nat} (h : orUp U L Z k x = true) (hk : k ≤ mu) : orUp U L Z mu x = true := by
  have := or_mono h (mu - k)
  rwa [show k + (mu - k) = mu by omega] at this

set_option maxHeartbeats 1600000 in
/-- The law. -/
theorem law_union (n : Int) (nm cm mu cu : Nat) (am au : Option Addr) (L : Nat → Nat) (Z : Nat → Nat → Bool) (z : Nat → Int) (w : World) (hm : Grid w am nm L Z) (hu : Shows w au mu (fun i => .int .i64 (z i))) :
    Calls Try.prog 6 #[.int .i64 n, .slice am nm cm, .slice au mu cu] w fun e w' => e = .returned (.bool true) ∧ Below w.heap.size w w' := by
  have HM : Hid (Grid w am nm L Z) := hm
  have HU : Hid (Shows w au mu (fun i => .int .i64 (z i))) := hu
  clear hm hu
  go_enter Try.func6, Try.ntmps6
  go_wp2_with fail
  refine (bytesUnion n nm cm mu cu am au L Z w HM.out).mono ?_
  rintro e w' ⟨b, rfl, rfl, -⟩
  cases b
  · go_wp2
    go_ret
    exact ⟨rfl, Below.refl _ _⟩
  go_wp2_with fail
  refine (fitsUnion n nm cm mu cu am au L Z z w HM.out HU.out).mono ?_
  rintro e w' ⟨b, rfl, rfl, hb⟩
  cases b
  · clear hb
    go_wp2
    go_ret
    exact ⟨rfl, Below.refl _ _⟩
  obtain ⟨f1, f2, f3, f4, f5, f6⟩ := hb rfl
  clear hb
  obtain ⟨N, rfl⟩ := Int.eq_ofNat_of_zero_le f1
  obtain ⟨U, hUd⟩ : ∃ U : Nat → Nat, ∀ k, k < mu → z k = (U k : Nat) ∧ U k < nm ∧ L (U k) ≤ N :=
    ⟨fun k => (z k).toNat, fun k hk => by
      obtain ⟨g1, g2, g3⟩ := f6 k hk
      exact ⟨by simp only; omega, by simp only; omega, by simp only; omega⟩⟩
  have HF : Hid (∀ r, r < nm → L r ≤ 1048576) := f5
  have HV : Hid (∀ k, k < mu → z k = (U k : Nat) ∧ U k < nm ∧ L (U k) ≤ N) := hUd
  clear f1 f5 f6 hUd
  go_wp2_with fail
  refine (cloneMet am nm cm L Z w HM.out (by omega) HF.out).mono ?_
  rintro e w1 ⟨a1, c1, rfl, hg1, hb1⟩
  have HG1 : Hid (Grid w1 a1 nm L Z) := hg1
  have HU1 : Hid (Shows w1 au mu (fun i => .int .i64 (z i))) := HU.out.below hb1 (Nat.le_refl _)
  have HB1 : Hid (Below w.heap.size w w1) := hb1
  clear hg1 hb1 HU HM
  go_wp2_with fail
  refine (cloneInts au mu cu z w1 HU1.out (by omega)).mono ?_
  rintro e w2 ⟨a2, c2, rfl, hs2, hb2, -⟩
  have HS2 : Hid (Shows w2 a2 mu (fun i => .int .i64 (U i : Nat))) := hs2.congr (fun i hi => by rw [(HV.out i hi).1])
  have HG2 : Hid (Grid w2 a1 nm L Z) := HG1.out.below hb2 (Nat.le_refl _)
  have HB2 : Hid (Below w.heap.size w w2) := HB1.out.trans (hb2.mono HB1.out.size)
  clear hs2 hb2 HG1 HU1 HB1
  go_wp2_with fail
  refine (zzUnion N nm c1 mu c2 a1 a2 U L Z w2 HG2.out HS2.out (by omega) (by omega) (fun k hk => (HV.out k hk).2)).mono ?_
  rintro e w3 ⟨g, rfl, ho, hb3⟩
  have HS3 : Hid (Shows w3 a2 mu (fun i => .int .i64 (U i : Nat))) := HS2.out.below hb3 (Nat.le_refl _)
  have HG3 : Hid (Grid w3 a1 nm L Z) := HG2.out.below hb3 (Nat.le_refl _)
  have HB3 : Hid (Below w.heap.size w w3) := HB2.out.trans (hb3.mono HB2.out.size)
  have HO : Hid (Own w3 g N (fun x => .bool (orUp U L Z mu x))) := ho
  clear ho hb3 HB2 HS2 HG2
  go_wp2
  go_loop [8] (fun i => ∃ x : Nat, x ≤ N ∧ i = .int .i64 x) (fun i => N - (intOf i).toNat)
  case atStart => exact ⟨0, Nat.zero_le _, rfl⟩
  case round =>
    obtain ⟨x, hx, rfl⟩ := hrel
    by_cases hlt : x < N
    · have hin := (HO.out.2 x hlt).1
      simp only at hin
      go_wp2
      go_loop [9, 10] (fun t i => ∃ k : Nat, k ≤ mu ∧ i = .int .i64 k ∧ t = .bool (orUp U L Z k x)) (fun _ i => mu - (intOf i).toNat)
      case atStart => exact ⟨0, Nat.zero_le _, rfl, rfl⟩
      case round =>
        obtain ⟨k, hk, rfl, rfl⟩ := hrel
        by_cases hk1 : k < mu
        · cases hw : orUp U L Z k x
          · obtain ⟨hz, hj, hL⟩ := HV.out k hk1
            obtain ⟨xu, rfl, hux, hcu⟩ := HS3.out k hk1
            obtain ⟨A, C, h1, h2⟩ := HG3.out
            obtain ⟨xm, rfl, hmx, hcm⟩ := h1 (U k) hj
            have hrow := h2 (U k) hj
            have hnext : orUp U L Z (k + 1) x = (decide (x < L (U k)) && Z (U k) x) := by show (orUp U L Z k x || _) = _; rw [hw]; rfl
            have HN : Hid (orUp U L Z (k + 1) x = (decide (x < L (U k)) && Z (U k) x)) := hnext
            simp only at hcu hcm hrow
            clear h1 h2 hnext hw hz
            obtain ⟨j, hjd⟩ : ∃ j, j = U k := ⟨_, rfl⟩
            rw [← hjd] at hcu hcm hrow HN hj hL
            clear hjd
            generalize A j = aj at hcm hrow
            generalize L j = lj at hcm hrow hL HN
            generalize C j = cj at hcm
            by_cases hxl : x < lj
            · obtain ⟨xr, rfl, hrx, hcr⟩ := hrow x hxl
              simp only at hcr
              generalize Z j x = Y at hcr HN
              cases Y
              · have hnn : orUp U L Z (k + 1) x = false := by rw [HN.out]; simp
                clear hrow hrx hux hmx HN
                go_wp2
                go_round
                case rel => exact ⟨k + 1, by omega, by go_num, by rw [hnn]⟩
                case measure => simp [intOf]; omega
              · have hnn : orUp U L Z (k + 1) x = true := by rw [HN.out]; simp [hxl]
                clear hrow hrx hux hmx HN
                go_wp2
                go_round
                case rel => exact ⟨k + 1, by omega, by go_num, by rw [hnn]⟩
                case measure => simp [intOf]; omega
            · have hnn : orUp U L Z (k + 1) x = false := by rw [HN.out]; simp [hxl]
              clear hrow hux hmx HN
              go_wp2
              go_round
              case rel => exact ⟨k + 1, by omega, by go_num, by rw [hnn]⟩
              case measure => simp [intOf]; omega
          · rw [or_late hw hk] at hin
            clear hw
            go_wp2
            go_round
            case rel => exact ⟨x + 1, by omega, by go_num⟩
            case measure => simp [intOf]; omega
        · have he : k = mu := by omega
          subst he
          generalize orUp U L Z k x = b at hin
          cases b
          · go_wp2
            go_round
            case rel => exact ⟨x + 1, by omega, by go_num⟩
            case measure => simp [intOf]; omega
          · go_wp2
            go_round
            case rel => exact ⟨x + 1, by omega, by go_num⟩
            case measure => simp [intOf]; omega
    · go_wp2
      go_ret
      exact ⟨rfl, HB3.out⟩
end Go.Proofs.Qxb6606129a
