/-
  THE WALK of FnParsePeriodRoundTripsDecimal.
-/
import Derived.Test.Qxb6606386aDoorItoa
import Derived.Test.Qxb6606386aDoorPeriod
namespace Go.Proofs.Qxb6606386aDoor
open Go.RowKit

/-- What the pair is. -/
def PairIs (n r : Int) (b : Bool) : Prop :=
  (1 ≤ n ∧ n ≤ 86400 ∧ r = n ∧ b = true) ∨ (86400 < n ∧ n ≤ 99999 ∧ r = n ∧ b = false) ∨ ((n < 1 ∨ 99999 < n) ∧ r = 0 ∧ b = false)

/-- The numeral, and what parsePeriod answers at it. -/
theorem numeral (n : Int) (h0 : -9223372036854775808 ≤ n) (h1 : n ≤ 9223372036854775807) : ∃ (s : ByteArray) (r : Int) (b : Bool), PairIs n r b ∧
    (∀ w, Calls Tryd.prog 7 #[.int .i64 n] w fun e w' => e = .returned (.string s) ∧ Below w.heap.size w w') ∧
    (∀ w, Tab w → Calls Tryd.prog 13 #[.string s] w fun e w' => e = .returned (.tuple #[.int .i64 r, .bool b]) ∧ Below w.heap.size w w') := by
  by_cases hneg : n < 0
  · obtain ⟨u, rfl⟩ : ∃ u : Nat, n = -(u : Int) := ⟨n.natAbs, by omega⟩
    refine ⟨⟨(45 :: Lib.decDigits u).toArray⟩, 0, false, .inr (.inr ⟨by omega, rfl, rfl⟩), itoa_neg u (by omega) (by omega), fun w ht => ?_⟩
    have hsz : (⟨(45 :: Lib.decDigits u).toArray⟩ : ByteArray).size = (Lib.decDigits u).length + 1 := by
      show (45 :: Lib.decDigits u).toArray.size = _
      simp
    by_cases hl : 5 < (⟨(45 :: Lib.decDigits u).toArray⟩ : ByteArray).size
    · exact period_long _ w ht hl
    · exact period_sign _ w ht (by omega) (by omega) rfl
  · obtain ⟨u, rfl⟩ : ∃ u : Nat, n = (u : Int) := ⟨n.toNat, by omega⟩
    have hsz : (⟨(Lib.decDigits u).toArray⟩ : ByteArray).size = (Lib.decDigits u).length := by
      show (Lib.decDigits u).toArray.size = _
      simp
    have hpos := digits_pos u
    by_cases hz : u = 0
    · subst hz
      refine ⟨_, 0, false, .inr (.inr ⟨by omega, rfl, rfl⟩), itoa_pos 0 (by omega), fun w ht => ?_⟩
      have e : Lib.decDigits 0 = [48] := Lib.decDigits_one (by omega)
      rw [e]
      exact period_zero _ w ht (by decide) (by decide) rfl
    · by_cases hbig : u < 100000
      · refine ⟨⟨(Lib.decDigits u).toArray⟩, u, decide ((u : Int) ≤ 86400), ?_, itoa_pos u (by omega), fun w ht => ?_⟩
        · by_cases h86 : (u : Int) ≤ 86400
          · exact .inl ⟨by omega, h86, rfl, decide_eq_true h86⟩
          · exact .inr (.inl ⟨by omega, by omega, rfl, decide_eq_false h86⟩)
        · have hle := digits_len_le 4 u (by omega)
          obtain ⟨c, r, hc, hn⟩ := digits_head 5 u (by omega) (by omega)
          have hall := digits_all 5 u (by omega)
          have hget : ∀ k, (h : k < (⟨(Lib.decDigits u).toArray⟩ : ByteArray).size) → (⟨(Lib.decDigits u).toArray⟩ : ByteArray)[k] ∈ Lib.decDigits u := by
            intro k h
            show (Lib.decDigits u).toArray[k] ∈ _
            simp
          refine period_digits _ u w ht (by omega) (by omega) ?_ (fun k h => hall _ (hget k h)) ?_
          · show (Lib.decDigits u).toArray[0].toNat ≠ 48
            simp only [hc]
            simpa using hn
          · show Lib.parseIntB 64 (Lib.decDigits u).toArray.toList = _
            rw [List.toList_toArray]
            exact parse_numeral u (by omega) hbig
      · refine ⟨⟨(Lib.decDigits u).toArray⟩, 0, false, .inr (.inr ⟨by omega, rfl, rfl⟩), itoa_pos u (by omega), fun w ht => ?_⟩
        have hge := digits_len_ge 5 u (by omega)
        exact period_long _ w ht (by omega)

theorem law_period (n : Int) (w : World) (h0 : -9223372036854775808 ≤ n) (h1 : n ≤ 9223372036854775807) (ht : Tab w) :
    Calls Tryd.prog 3 #[.int .i64 n] w fun e w' => e = .returned (.bool true) ∧ Below w.heap.size w w' := by
  obtain ⟨s, r, b, hpair, hs, hp⟩ := numeral n h0 h1
  have HS : Hid (∀ w, Calls Tryd.prog 7 #[.int .i64 n] w fun e w' => e = .returned (.string s) ∧ Below w.heap.size w w') := hs
  have HP : Hid (∀ w, Tab w → Calls Tryd.prog 13 #[.string s] w fun e w' => e = .returned (.tuple #[.int .i64 r, .bool b]) ∧ Below w.heap.size w w') := hp
  have HT : Hid (Lib.TabBelow Tryd.prog w.heap.size w powName .u64 Lib.pow10Tab) := Lib.tabBelow_of_tabIs ht
  clear hs hp ht
  rcases hpair with ⟨g1, g2, rfl, rfl⟩ | ⟨g1, g2, rfl, rfl⟩ | ⟨g1, rfl, rfl⟩
  · go_enter Tryd.func3, Tryd.ntmps3
    go_wp2_with fail
    refine (HS.out w).mono ?_
    rintro e w1 ⟨rfl, hb1⟩
    have HB1 : Hid (Below w.heap.size w w1) := hb1
    clear hb1
    go_wp2_with fail
    refine (zzPeriod s _ _ w1 (HP.out w1 (HT.out w1 HB1.out))).mono ?_
    rintro e w2 ⟨rfl, hb2⟩
    have HB2 : Hid (Below w.heap.size w w2) := HB1.out.trans (hb2.mono HB1.out.size)
    clear hb2
    go_wp2
    go_ret
    exact ⟨rfl, HB2.out⟩
  · have g3 : ¬ (r ≤ 86400) := by omega
    go_enter Tryd.func3, Tryd.ntmps3
    go_wp2_with fail
    refine (HS.out w).mono ?_
    rintro e w1 ⟨rfl, hb1⟩
    have HB1 : Hid (Below w.heap.size w w1) := hb1
    clear hb1
    go_wp2_with fail
    refine (zzPeriod s _ _ w1 (HP.out w1 (HT.out w1 HB1.out))).mono ?_
    rintro e w2 ⟨rfl, hb2⟩
    have HB2 : Hid (Below w.heap.size w w2) := HB1.out.trans (hb2.mono HB1.out.size)
    clear hb2
    go_wp2
    go_ret
    exact ⟨rfl, HB2.out⟩
  · rcases g1 with g1 | g1
    · have g3 : ¬ (1 ≤ n) := by omega
      have g4 : ¬ (86400 < n) := by omega
      go_enter Tryd.func3, Tryd.ntmps3
      go_wp2_with fail
      refine (HS.out w).mono ?_
      rintro e w1 ⟨rfl, hb1⟩
      have HB1 : Hid (Below w.heap.size w w1) := hb1
      clear hb1
      go_wp2_with fail
      refine (zzPeriod s _ _ w1 (HP.out w1 (HT.out w1 HB1.out))).mono ?_
      rintro e w2 ⟨rfl, hb2⟩
      have HB2 : Hid (Below w.heap.size w w2) := HB1.out.trans (hb2.mono HB1.out.size)
      clear hb2
      go_wp2
      go_ret
      exact ⟨rfl, HB2.out⟩
    · have g3 : ¬ (n ≤ 86400) := by omega
      have g4 : ¬ (n ≤ 99999) := by omega
      go_enter Tryd.func3, Tryd.ntmps3
      go_wp2_with fail
      refine (HS.out w).mono ?_
      rintro e w1 ⟨rfl, hb1⟩
      have HB1 : Hid (Below w.heap.size w w1) := hb1
      clear hb1
      go_wp2_with fail
      refine (zzPeriod s _ _ w1 (HP.out w1 (HT.out w1 HB1.out))).mono ?_
      rintro e w2 ⟨rfl, hb2⟩
      have HB2 : Hid (Below w.heap.size w w2) := HB1.out.trans (hb2.mono HB1.out.size)
      clear hb2
      go_wp2
      go_ret
      exact ⟨rfl, HB2.out⟩
end Go.Proofs.Qxb6606386aDoor
