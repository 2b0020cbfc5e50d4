/-
  THE WALKS of parsePeriod and ZZparsePeriod.
-/
import Derived.Test.Qxb6606386aDoorChecked
import Derived.Test.Qxb6606386aDoorRows
import Derived.Test.Qxb6606386aDoorShelf
import Derived.Test.Qxb6606386aDoorMem
import Derived.Test.Qxb6606386aDoorPlain
import Derived.Lib.AppendIntMem
import Derived.Lib.AtoiErrMem
namespace Go.Proofs.Qxb6606386aDoor
open Go.RowKit

/-- The name of the table that strconv.Itoa reads: the third of those that the row lists. -/
abbrev powName : String := (Rows.fnParsePeriodRoundTripsDecimalRow.laid.map Prod.fst).getD 2 default

/-- The table that strconv.Itoa reads. -/
abbrev Tab (w : World) : Prop := Lib.TabIs Tryd.prog w powName .u64 Lib.pow10Tab

theorem below_grow (w : World) (k : Nat) (os : Array Obj) : Below w.heap.size w (Sort.grow (w.drewN k) os) := by
  refine ⟨rfl, rfl, rfl, by simp [Sort.grow], fun j hj => ?_⟩
  show (w.heap ++ os)[j]? = _
  rw [Array.getElem?_append_left hj]

theorem itoa_max : Lib.itoa 86400 = [56, 54, 52, 48, 48] := by
  simp [Lib.itoa, Lib.decDigits]

/-- The shelf's contract of strconv.Itoa at this program. -/
theorem strconvItoa (n : Int) (h0 : -9223372036854775808 ≤ n) (h1 : n ≤ 9223372036854775807) (w : World) (htab : Tab w) :
    Calls Tryd.prog 16 #[.int .i64 n] w fun e w' => e = .returned (.string ⟨(Lib.itoa n).toArray⟩) ∧ ∃ k os, w' = Sort.grow (w.drewN k) os := Any.strconv_Itoa Tryd.laysM171 n h0 h1 w htab

/-- strconv.Itoa(maxPeriod). -/
theorem itoaMax (w : World) (h : Tab w) : Calls Tryd.prog 16 #[.int .i64 86400] w fun e w' => e = .returned (.string ⟨#[56, 54, 52, 48, 48]⟩) ∧ Below w.heap.size w w' := by
  refine (strconvItoa 86400 (by omega) (by omega) w h).mono ?_
  rintro e w' ⟨rfl, k, os, rfl⟩
  exact ⟨by rw [itoa_max], below_grow w k os⟩

theorem parseOk (s : ByteArray) (v : Int) (w : World) (hs : s.size ≤ 5) (h : Lib.parseIntB 64 s.data.toList = .ok v) :
    Calls Tryd.prog 17 #[.string s, .int .i64 10, .int .i64 64] w fun e w' => e = .returned (.tuple #[.int .i64 v, .nilIface]) ∧ Below w.heap.size w w' := by
  refine (Tryd.strconv_ParseInt_10_at64_ok s (by omega) v h w).mono ?_
  rintro e w' ⟨rfl, hw⟩
  rcases hw with rfl | ⟨t, rfl⟩
  · exact ⟨rfl, Below.refl _ _⟩
  · exact ⟨rfl, Lib.bytesWorld_below w 5 t⟩

theorem not_empty (s : ByteArray) (h : 0 < s.size) : s.toList.isEmpty = false := by
  rw [ByteArray.toList_eq]
  have : 0 < s.data.toList.length := by rw [Array.length_toList]; exact h
  cases hl : s.data.toList with
  | nil => rw [hl] at this; simp at this
  | cons c r => rfl

/-- More bytes than maxPeriod has. -/
theorem period_long (s : ByteArray) (w : World) (ht : Tab w) (hs : 5 < s.size) :
    Calls Tryd.prog 13 #[.string s] w fun e w' => e = .returned (.tuple #[.int .i64 0, .bool false]) ∧ Below w.heap.size w w' := by
  have HT : Hid (Tab w) := ht
  have hne := not_empty s (by omega)
  clear ht
  go_enter Tryd.func13, Tryd.ntmps13
  go_wp2_with fail
  refine (itoaMax w HT.out).mono ?_
  rintro e w1 ⟨rfl, hb⟩
  go_wp2
  go_ret2
  exact ⟨rfl, hb⟩

/-- A zero ahead. -/
theorem period_zero (s : ByteArray) (w : World) (ht : Tab w) (h0 : 0 < s.size) (hs : s.size ≤ 5) (hc : s[0] = 48) :
    Calls Tryd.prog 13 #[.string s] w fun e w' => e = .returned (.tuple #[.int .i64 0, .bool false]) ∧ Below w.heap.size w w' := by
  have HT : Hid (Tab w) := ht
  have hne := not_empty s (by omega)
  have hq : ((s[0].toNat : Int) == 48) = true := by rw [hc]; rfl
  clear ht hc
  go_enter Tryd.func13, Tryd.ntmps13
  go_wp2_with fail
  refine (itoaMax w HT.out).mono ?_
  rintro e w1 ⟨rfl, hb⟩
  go_wp2
  go_ret2
  exact ⟨rfl, hb⟩

/-- A sign ahead. -/
theorem period_sign (s : ByteArray) (w : World) (ht : Tab w) (h0 : 0 < s.size) (hs : s.size ≤ 5) (hc : s[0] = 45) :
    Calls Tryd.prog 13 #[.string s] w fun e w' => e = .returned (.tuple #[.int .i64 0, .bool false]) ∧ Below w.heap.size w w' := by
  have HT : Hid (Tab w) := ht
  have hne := not_empty s (by omega)
  have hq : ((s[0].toNat : Int) == 48) = false := by rw [hc]; rfl
  have hq2 : (s[0].toNat : Int) < 48 := by rw [hc]; decide
  clear ht hc
  go_enter Tryd.func13, Tryd.ntmps13
  go_wp2_with fail
  refine (itoaMax w HT.out).mono ?_
  rintro e w1 ⟨rfl, hb⟩
  go_wp2
  go_loop [4] (fun i => i = .int .i64 0) (fun _ => 0)
  case atStart => rfl
  case round =>
    subst hrel
    go_wp2
    go_ret2
    exact ⟨rfl, hb⟩

/-- Digits alone, no zero ahead. -/
theorem period_digits (s : ByteArray) (v : Int) (w : World) (ht : Tab w) (h0 : 0 < s.size) (hs : s.size ≤ 5) (hc : s[0].toNat ≠ 48) (hd : ∀ k, (h : k < s.size) → 48 ≤ s[k].toNat ∧ s[k].toNat ≤ 57) (hp : Lib.parseIntB 64 s.data.toList = .ok v) :
    Calls Tryd.prog 13 #[.string s] w fun e w' => e = .returned (.tuple #[.int .i64 v, .bool (decide (v ≤ 86400))]) ∧ Below w.heap.size w w' := by
  have HT : Hid (Tab w) := ht
  have HD : Hid (∀ k, (h : k < s.size) → 48 ≤ s[k].toNat ∧ s[k].toNat ≤ 57) := hd
  have HP : Hid (Lib.parseIntB 64 s.data.toList = .ok v) := hp
  have hne := not_empty s (by omega)
  have hq : ((s[0].toNat : Int) == 48) = false := beq_eq_false_iff_ne.2 (by omega)
  clear ht hc hd hp
  go_enter Tryd.func13, Tryd.ntmps13
  go_wp2_with fail
  refine (itoaMax w HT.out).mono ?_
  rintro e w1 ⟨rfl, hb⟩
  have HB : Hid (Below w.heap.size w w1) := hb
  clear hb
  go_wp2
  go_loop [4] (fun i => ∃ k : Nat, k ≤ s.size ∧ i = .int .i64 k) (fun i => s.size - (intOf i).toNat)
  case atStart => exact ⟨0, Nat.zero_le _, rfl⟩
  case round =>
    obtain ⟨k, hk, rfl⟩ := hrel
    by_cases hlt : k < s.size
    · have h1 : ¬ ((s[k].toNat : Int) < 48) := by have := HD.out k hlt; omega
      have h2 : ¬ ((57 : Int) < s[k].toNat) := by have := HD.out k hlt; omega
      go_wp2
      go_round
      case rel => exact ⟨k + 1, by omega, by go_num⟩
      case measure => simp [intOf]; omega
    · go_wp2_with fail
      refine (parseOk s v w1 hs HP.out).mono ?_
      rintro e w2 ⟨rfl, hb2⟩
      have HB2 : Hid (Below w.heap.size w w2) := HB.out.trans (hb2.mono HB.out.size)
      clear hb2
      go_wp2
      go_ret2
      exact ⟨rfl, HB2.out⟩

/-- ZZparsePeriod hands parsePeriod's pair on. -/
theorem zzPeriod (s : ByteArray) (r : Int) (b : Bool) (w : World) (h : Calls Tryd.prog 13 #[.string s] w fun e w' => e = .returned (.tuple #[.int .i64 r, .bool b]) ∧ Below w.heap.size w w') :
    Calls Tryd.prog 6 #[.string s] w fun e w' => e = .returned (.tuple #[.int .i64 r, .bool b]) ∧ Below w.heap.size w w' := by
  go_enter Tryd.func6, Tryd.ntmps6
  go_wp2_with fail
  refine h.mono ?_
  rintro e w1 ⟨rfl, hb⟩
  go_wp2
  go_ret2
  exact ⟨rfl, hb⟩
end Go.Proofs.Qxb6606386aDoor
