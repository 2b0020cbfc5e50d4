/-
  THE WALK of FnDifferExactlyTheChangedParties.
-/
import Derived.Test.Qxb6606129aExactAid
import Derived.Test.Qxb6606129aEqInts
import Derived.Test.Qxb6606129aBytes
namespace Go.Proofs.Qxb6606129a
open Go.RowKit

theorem budget_first (n c : Nat) (a : Option Addr) (P : Nat → Option Addr) (L : Nat → Nat → Nat) (Z : Nat → Nat → Nat → Int) (w : World) (hm : Blocks w a n P L Z) :
    Calls Try.prog 8 #[.slice a n c, .int .i64 1048576] w fun e w' => SaysInt (fun r => r = -1 ∨ (0 ≤ r ∧ r ≤ 1048576 ∧ n ≤ 131072 ∧ Small n P L)) w e w' := by
  have h := budget 1048576 n c (Nat.le_refl _) a P L Z w hm
  have e : ((1048576 : Nat) : Int) = 1048576 := by omega
  rw [e] at h
  exact h

theorem end_eq {a b : Nat} (h : a = b) : Ending.returned (.bool ((a : Int) == (b : Int))) = .returned (.bool true) := by
  subst h
  simp

set_option maxRecDepth 100000 in
set_option maxHeartbeats 4000000 in
theorem law_exact (an bn : Int) (na ca nb cb : Nat) (aa ab : Option Addr) (Pa Pb : Nat → Option Addr) (La Lb : Nat → Nat → Nat) (Za Zb : Nat → Nat → Nat → Int) (w : World) (hA : Blocks w aa na Pa La Za) (hB : Blocks w ab nb Pb Lb Zb)
    (hFa : ∀ k, k < na → ∀ y, Pa k = some y → w.frozen? y = false) (hFb : ∀ k, k < nb → ∀ y, Pb k = some y → w.frozen? y = false) :
    Calls Try.prog 3 #[.slice aa na ca, .int .i64 an, .slice ab nb cb, .int .i64 bn] w fun e w' => e = .returned (.bool true) ∧ Below w.heap.size w w' := by
  have HA : Hid (Blocks w aa na Pa La Za) := hA
  have HB : Hid (Blocks w ab nb Pb Lb Zb) := hB
  have HFA : Hid (∀ k, k < na → ∀ y, Pa k = some y → w.frozen? y = false) := hFa
  have HFB : Hid (∀ k, k < nb → ∀ y, Pb k = some y → w.frozen? y = false) := hFb
  clear hA hB hFa hFb
  go_enter Try.func3, Try.ntmps3
  go_wp2_with fail
  refine (bytesExactly an bn na ca nb cb aa ab Pa Pb La Lb Za Zb w HA.out HB.out).mono ?_
  rintro e w' ⟨b, rfl, rfl, -⟩
  cases b
  · go_wp2
    go_ret
    exact ⟨rfl, Below.refl _ _⟩
  go_wp2_with fail
  refine (budget_first na ca aa Pa La Za w HA.out).mono ?_
  rintro e w' ⟨r, rfl, rfl, hr⟩
  rcases hr with rfl | ⟨hr0, hr1, hna, hsa⟩
  · go_wp2
    go_ret
    exact ⟨rfl, Below.refl _ _⟩
  have HSA : Hid (Small na Pa La) := hsa
  clear hsa
  obtain ⟨R, rfl⟩ := Int.eq_ofNat_of_zero_le hr0
  go_wp2_with fail
  refine (budget R nb cb (by omega) ab Pb Lb Zb w HB.out).mono ?_
  rintro e w' ⟨r2, rfl, rfl, hr⟩
  rcases hr with rfl | ⟨hr2, hr3, hnb, hsb⟩
  · go_wp2
    go_ret
    exact ⟨rfl, Below.refl _ _⟩
  have HSB : Hid (Small nb Pb Lb) := hsb
  clear hsb
  go_wp2_with fail
  refine (domain na ca nb cb aa ab Pa Pb La Lb Za Zb w HA.out HB.out hna HFA.out).mono ?_
  rintro e w' ⟨b, m0, rfl, rfl, hdo⟩
  have HB0 : Hid (Below w.heap.size w (w.drewN m0)) := below_drewN (Below.refl _ _) m0
  have HA' : Hid (Blocks (w.drewN m0) aa na Pa La Za) := HA.out
  have HB' : Hid (Blocks (w.drewN m0) ab nb Pb Lb Zb) := HB.out
  have HF' : Hid (∀ k, k < nb → ∀ y, Pb k = some y → (w.drewN m0).frozen? y = false) := HFB.out
  clear HA HB HFA HFB
  generalize w.drewN m0 = w0 at HB0 HA' HB' HF' ⊢
  cases b
  · clear hdo
    go_wp2
    go_ret
    exact ⟨rfl, HB0.out⟩
  obtain ⟨hn, hbo⟩ := hdo rfl
  have HBO : Hid (Both na Pa Pb) := hbo
  clear hdo hbo hr0 hr1 hr2 hr3
  go_wp2_with fail
  refine (cloneBlocks aa na ca Pa La Za w0 HA'.out hna HSA.out).mono ?_
  rintro e w1 ⟨a1, c1, P', rfl, htw, hb1⟩
  have HTW : Hid (Twins w1 a1 na Pa P' La Za) := htw
  have HB1 : Hid (Below w.heap.size w w1) := HB0.out.trans (hb1.mono HB0.out.size)
  have HA1 : Hid (Blocks w1 aa na Pa La Za) := HA'.out.below hb1 (Nat.le_refl _)
  have HBB : Hid (Blocks w1 ab nb Pb Lb Zb) := HB'.out.below hb1 (Nat.le_refl _)
  have HF1 : Hid (∀ k, k < nb → ∀ y, Pb k = some y → w1.frozen? y = false) := fun k hk y hy => by
    obtain ⟨A, C, g, _⟩ := HB'.out.2 k hk y hy
    rw [hb1.frozen ((g.some 0 (by omega)).1)]
    exact HF'.out k hk y hy
  clear htw hb1 HB0 HA' HB' HF'
  go_wp2_with fail
  refine (pair na ca nb cb c1 aa ab a1 Pa Pb P' La Lb Za Zb w1 HA1.out HBB.out HTW.out.1 hnb HSB.out HF1.out).mono ?_
  rintro e w2 ⟨a2, c2, Pc, Lc, Zc, rfl, hpa, hb2⟩
  have HPA : Hid (Paired w1.heap.size w2 a2 nb na P' Pb Pc La Lb Lc Za Zb Zc) := hpa
  have HB2 : Hid (Below w1.heap.size w1 w2) := hb2
  have HBL2 : Hid (Below w.heap.size w w2) := HB1.out.trans (hb2.mono HB1.out.size)
  have HBA : Hid (Blocks w2 a1 na P' La Za) := (HTW.out.below hb2 (Nat.le_refl _)).blocks
  have HBC : Hid (Blocks w2 a2 nb Pc Lc Zc) := hpa.blocks HTW.out hb2
  clear hpa hb2 HA1 HBB HF1 HB1
  go_wp2_with fail
  refine (zzDiffer an bn na c1 nb c2 a1 a2 P' Pc La Lc Za Zc w2 HBA.out HBC.out hn hna (fun k hk => HPA.out.apart HTW.out HB2.out HBO.out hn hk) (fun k hk hne i hi => by
    have := HSA.out k hk (fun c => hne ((HTW.out.2 k hk).1 c)) i hi
    omega)).mono ?_
  rintro e w3 ⟨⟨ax, cx, rfl, hsx, hnx⟩, hb3⟩
  have HBA3 : Hid (Blocks w3 a1 na P' La Za) := HBA.out.below hb3 (Nat.le_refl _)
  have HBC3 : Hid (Blocks w3 a2 nb Pc Lc Zc) := HBC.out.below hb3 (Nat.le_refl _)
  have HBL3 : Hid (Below w.heap.size w w3) := HBL2.out.trans (hb3.mono HBL2.out.size)
  have HBT : Hid (∀ k, k < na → (P' k = none ↔ Pc k = none)) := fun k hk => HPA.out.both HTW.out HBO.out hn hk
  have HDF : Hid (∀ k q, k < na → P' k ≠ none → (!eqL (La k q) (Za k q) (Lc k q) (Zc k q)) = dif P' Pc La Lc Za Zc k q) := fun k q hk hs => HPA.out.dif HTW.out hn hk hs
  have HD0 : Hid (∀ k q, P' k = none → k < na → dif P' Pc La Lc Za Zc k q = false) := fun k q h hk => by
    have := (HBT.out k hk).1 h
    simp [dif, h, this]
  have HSM : Hid (∀ k, k < na → P' k ≠ none → ∀ i, i < 64 → La k i ≤ 131072) := fun k hk hne i hi => HSA.out k hk (fun c => hne ((HTW.out.2 k hk).1 c)) i hi
  clear HBA HBC HBL2 HPA HTW HB2 HBO HSA HSB hb3
  obtain ⟨d, hd⟩ : ∃ d, d = dif P' Pc La Lc Za Zc := ⟨_, rfl⟩
  rw [← hd] at hsx hnx HDF HD0 ⊢
  clear hd
  obtain ⟨D, hD⟩ : ∃ D, D = upTo d na := ⟨_, rfl⟩
  have HD : Hid (D = upTo d na) := hD
  rw [← hD] at hsx hnx ⊢
  clear hD
  have hDl : D.length ≤ na * 64 := by rw [HD.out]; exact upTo_le d na
  obtain ⟨N, hN⟩ : ∃ N, D.length = N := ⟨_, rfl⟩
  have HN : Hid (D.length = N) := hN
  rw [hN] at hsx hDl ⊢
  clear hN
  have HSX : Hid (Shows w3 ax N (fun i => .int .i64 (D.getD i 0))) := hsx
  clear hsx
  have hax : N = 0 → ax.isNone = true := fun h => by rw [hnx (List.length_eq_zero_iff.1 (by rw [HN.out]; exact h))]; rfl
  clear hnx
  have hcase : (((N : Int) == 0) = true ∧ ax.isNone = true) ∨ ((N : Int) == 0) = false := by
    by_cases h : N = 0
    · exact .inl ⟨by simp [h], hax h⟩
    · exact .inr (by simp [h])
  clear hax
  rcases hcase with ⟨hN0, hax⟩ | hN0
  all_goals
    go_wp2
    try clear hax
    clear hN0
    go_loopw [13, 14] (fun j i wr => ∃ k : Nat, k ≤ na ∧ i = .int .i64 k ∧ j = .int .i64 ((upTo d k).length : Nat) ∧ ∃ m, wr = w3.drewN m) (fun _ i _ => na - (intOf i).toNat)
    case atStart => exact ⟨0, Nat.zero_le _, rfl, rfl, 0, rfl⟩
    case round =>
      obtain ⟨k, hk, rfl, rfl, m, rfl⟩ := hrel
      have hJ0 := upTo_le d k
      by_cases hlt : k < na
      · obtain ⟨xa, rfl, hxa, hca⟩ := HBA3.out.1 k hlt
        obtain ⟨xc, rfl, hxc, hcc⟩ := HBC3.out.1 k (by omega)
        have HCA : Hid (w3.cell? (xa.add k) = some (.pointer (P' k))) := hca
        have HCC : Hid (w3.cell? (xc.add k) = some (.pointer (Pc k))) := hcc
        clear hca hcc
        have hkb : k < nb := by omega
        have hki : (k : Int) < (na : Int) := by omega
        have hkj : (k : Int) < (nb : Int) := by omega
        go_wp2
        go_loopw [13, 15] (fun j i wr => ∃ q : Nat, q ≤ 64 ∧ i = .int .i64 q ∧ j = .int .i64 ((upTo d k ++ inBlk d k q).length : Nat) ∧ ∃ m, wr = w3.drewN m) (fun _ i _ => 64 - (intOf i).toNat)
        case atStart => exact ⟨0, Nat.zero_le _, rfl, by simp [inBlk], m, rfl⟩
        case round =>
          obtain ⟨q, hq, rfl, rfl, m, hwr⟩ := hrel
          have HWR : Hid (wr = w3.drewN m) := hwr
          have hca : wr.cell? (xa.add k) = some (.pointer (P' k)) := by rw [hwr]; exact HCA.out
          have hcc : wr.cell? (xc.add k) = some (.pointer (Pc k)) := by rw [hwr]; exact HCC.out
          clear hwr
          have hJ : (upTo d k ++ inBlk d k q).length ≤ k * 64 + q := by have := upTo_le d k; have := inBlk_le d k q; rw [List.length_append]; omega
          by_cases hqm : q < 64
          · generalize hJd : (upTo d k ++ inBlk d k q).length = J at hJ ⊢
            have hhit : Hid (d k q = true → J < N ∧ D.getD J 0 = (k : Int) * 64 + (q : Int)) := fun h => by
              have := at_hit d hlt hqm h
              rw [hJd, ← HD.out, HN.out] at this
              exact this
            have hmiss : Hid (d k q = false → J < N → D.getD J 0 ≠ (k : Int) * 64 + (q : Int)) := fun h hj => by
              have := at_miss d hlt hqm h
              rw [hJd, ← HD.out, HN.out] at this
              exact this hj
            have hnh : Hid (d k q = true → (upTo d k ++ inBlk d k (q + 1)).length = J + 1) := fun h => by rw [next_hit d h, hJd]
            have hnm : Hid (d k q = false → (upTo d k ++ inBlk d k (q + 1)).length = J) := fun h => by rw [next_miss d h, hJd]
            clear hJd hJ0
            cases hpk : P' k with
            | none =>
              have hpc : Pc k = none := (HBT.out k hlt).1 hpk
              have hdq := HD0.out k q hpk hlt
              rw [hpk] at hca
              rw [hpc] at hcc
              have HNX : Hid ((upTo d k ++ inBlk d k (q + 1)).length = J) := hnm.out hdq
              have HMS : Hid (J < N → D.getD J 0 ≠ (k : Int) * 64 + (q : Int)) := hmiss.out hdq
              clear hpk hpc hdq hhit hmiss hnh hnm
              by_cases hj : J < N
              · obtain ⟨xx, rfl, hxx, hcx⟩ := HSX.out J hj
                have hcx : wr.cell? (xx.add J) = some (.int .i64 (D.getD J 0)) := by rw [HWR.out]; exact hcx
                have hne : (D.getD J 0 == (k : Int) * 64 + (q : Int)) = false := by simpa using HMS.out hj
                generalize D.getD J 0 = x at hcx hne
                clear hxx
                go_wp2
                go_roundw
                case rel => exact ⟨q + 1, by omega, by go_num, by rw [HNX.out], m, HWR.out⟩
                case measure => simp [intOf]; omega
              · go_wp2
                go_roundw
                case rel => exact ⟨q + 1, by omega, by go_num, by rw [HNX.out], m, HWR.out⟩
                case measure => simp [intOf]; omega
            | some y =>
              have hpn : Pc k ≠ none := fun c => by rw [(HBT.out k hlt).2 c] at hpk; cases hpk
              obtain ⟨z, hz⟩ := Option.ne_none_iff_exists'.1 hpn
              obtain ⟨A, C, g1, g2⟩ := HBA3.out.2 k hlt y hpk
              obtain ⟨A', C', g3, g4⟩ := HBC3.out.2 k hkb z hz
              have hcy : wr.cell? (y.add q) = some (.slice (A q) (La k q) (C q)) := by rw [HWR.out]; exact (g1.some q hqm).2
              have hcz : wr.cell? (z.add q) = some (.slice (A' q) (Lc k q) (C' q)) := by rw [HWR.out]; exact (g3.some q hqm).2
              have hsy : Shows wr (A q) (La k q) (fun j => .int .i64 (Za k q j)) := by rw [HWR.out]; exact g2 q hqm
              have hsz : Shows wr (A' q) (Lc k q) (fun j => .int .i64 (Zc k q j)) := by rw [HWR.out]; exact g4 q hqm
              have hsmall := HSM.out k hlt (by rw [hpk]; simp) q hqm
              have hdq := HDF.out k q hlt (by rw [hpk]; simp)
              have heq : ∀ n, Calls Try.prog 13 #[.slice (A q) (La k q) (C q), .slice (A' q) (Lc k q) (C' q)] (wr.drewN n) fun e w' => e = .returned (.bool (!d k q)) ∧ ∃ m', w' = (wr.drewN n).drewN m' := fun n => by
                rw [← hdq, Bool.not_not]
                exact eqInts _ _ _ _ _ _ _ _ _ (by omega) (hsy.drewN n) (hsz.drewN n)
              have HEQ : Hid (∀ n, Calls Try.prog 13 #[.slice (A q) (La k q) (C q), .slice (A' q) (Lc k q) (C' q)] (wr.drewN n) fun e w' => e = .returned (.bool (!d k q)) ∧ ∃ m', w' = (wr.drewN n).drewN m') := heq
              rw [hpk] at hca
              rw [hz] at hcc
              clear hpk hpn hz g1 g2 g3 g4 hsy hsz hsmall hdq heq
              generalize A q = aq at hcy HEQ
              generalize A' q = bq at hcz HEQ
              generalize La k q = la at hcy HEQ
              generalize Lc k q = lb at hcz HEQ
              generalize C q = cq at hcy HEQ
              generalize C' q = dq at hcz HEQ
              cases hdk : d k q
              · rw [hdk] at HEQ
                simp only [Bool.not_false] at HEQ
                have HNX : Hid ((upTo d k ++ inBlk d k (q + 1)).length = J) := hnm.out hdk
                have HMS : Hid (J < N → D.getD J 0 ≠ (k : Int) * 64 + (q : Int)) := hmiss.out hdk
                clear hdk hhit hmiss hnh hnm
                by_cases hj : J < N
                · obtain ⟨xx, rfl, hxx, hcx⟩ := HSX.out J hj
                  have hcx : wr.cell? (xx.add J) = some (.int .i64 (D.getD J 0)) := by rw [HWR.out]; exact hcx
                  have hne : (D.getD J 0 == (k : Int) * 64 + (q : Int)) = false := by simpa using HMS.out hj
                  generalize D.getD J 0 = x at hcx hne
                  clear hxx
                  go_wp2
                  go_quiet ((go_at_call 13; refine Calls.quiet_of (HEQ.out _)))
                  go_wp2
                  go_roundw
                  case rel => exact ⟨q + 1, by omega, by go_num, by rw [HNX.out], m + nq, by rw [HWR.out, World.drewN_drewN]⟩
                  case measure => simp [intOf]; omega
                · go_wp2
                  go_quiet ((go_at_call 13; refine Calls.quiet_of (HEQ.out _)))
                  go_wp2
                  go_roundw
                  case rel => exact ⟨q + 1, by omega, by go_num, by rw [HNX.out], m + nq, by rw [HWR.out, World.drewN_drewN]⟩
                  case measure => simp [intOf]; omega
              · rw [hdk] at HEQ
                simp only [Bool.not_true] at HEQ
                have HNX : Hid ((upTo d k ++ inBlk d k (q + 1)).length = J + 1) := hnh.out hdk
                obtain ⟨hj, hxv⟩ := hhit.out hdk
                clear hdk hhit hmiss hnh hnm
                obtain ⟨xx, rfl, hxx, hcx⟩ := HSX.out J hj
                have hcx : wr.cell? (xx.add J) = some (.int .i64 (D.getD J 0)) := by rw [HWR.out]; exact hcx
                rw [hxv] at hcx
                clear hxx hxv
                go_wp2
                go_quiet ((go_at_call 13; refine Calls.quiet_of (HEQ.out _)))
                go_wp2
                go_roundw
                case rel => exact ⟨q + 1, by omega, by go_num, by rw [HNX.out]; go_num, m + nq, by rw [HWR.out, World.drewN_drewN]⟩
                case measure => simp [intOf]; omega
          · have hq64 : q = 64 := by omega
            subst hq64
            have HU : Hid ((upTo d (k + 1)).length = (upTo d k ++ inBlk d k 64).length) := rfl
            clear hca hcc
            go_wp2
            go_roundw
            case rel => exact ⟨k + 1, by omega, by go_num, by rw [HU.out], m, HWR.out⟩
            case measure => simp [intOf]; omega
      · have he : k = na := by omega
        subst he
        have hend : (upTo d k).length = N := by rw [← HD.out, HN.out]
        have HEND : Hid (Ending.returned (.bool ((((upTo d k).length : Nat) : Int) == (N : Int))) = .returned (.bool true)) := end_eq hend
        clear hend
        go_wp2
        go_ret
        exact ⟨HEND.out, below_drewN HBL3.out m⟩
end Go.Proofs.Qxb6606129a
