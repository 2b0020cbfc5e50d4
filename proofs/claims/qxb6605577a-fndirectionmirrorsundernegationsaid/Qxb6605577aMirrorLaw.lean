/-
  'FnDirectionMirrorsUnderNegation': the plain arithmetic, and the law out of the walks.
-/
import Derived.Test.Qxb6605577aMirrorWalks
import Derived.Laws.Bits64
import Derived.Lib.Zigzag
import Derived.OpenShut
namespace Go.Proofs.Qxb6605577a.Mirror
open Go.RowKit

/-- '^x' of an int64, of either sign. -/
theorem not_i64 (x : Int) (h0 : -9223372036854775808 ≤ x) (h1 : x ≤ 9223372036854775807) : bits .xor .i64 (-1) x = -x - 1 := by
  show IntKind.i64.wrap ((BitVec.ofInt 64 (-1) ^^^ BitVec.ofInt 64 x).toNat : Int) = _
  have e1 : (BitVec.ofInt 64 (-1)).toNat = 2 ^ 64 - 1 := by decide
  have e2 : ((BitVec.ofInt 64 x).toNat : Int) = x % 18446744073709551616 := by
    rw [BitVec.toNat_ofInt]; omega
  have hb : (BitVec.ofInt 64 x).toNat < 2 ^ 64 := BitVec.isLt _
  rw [BitVec.toNat_xor, e1, Lib.xor_ones64 _ hb, IntKind.wrap_i64]
  omega

/-- '^x' of a uint64. -/
theorem not_u64 (x : Int) (h0 : 0 ≤ x) (h1 : x < 18446744073709551616) : bits .xor .u64 IntKind.u64.max x = 18446744073709551615 - x := by
  obtain ⟨n, rfl⟩ := Int.eq_ofNat_of_zero_le h0
  have e2 : IntKind.u64.max = ((2 ^ 64 - 1 : Nat) : Int) := by decide
  rw [e2, bits_xor_u64_nat _ _ (by decide) (by omega), Lib.xor_ones64 _ (by omega)]
  omega

theorem nlo_eq (lo : Int) (h0 : 0 ≤ lo) (h1 : lo < 18446744073709551616) :
    IntKind.u64.wrap (bits .xor .u64 IntKind.u64.max lo + 1) = (18446744073709551616 - lo) % 18446744073709551616 := by
  rw [not_u64 lo h0 h1, IntKind.wrap_u64]
  omega

theorem nhi_eq (hi : Int) (h0 : -9223372036854775807 ≤ hi) (h1 : hi ≤ 9223372036854775807) : wrap64 (bits .xor .i64 (-1) hi + 1) = -hi := by
  rw [not_i64 hi (by omega) h1]
  unfold wrap64
  omega

theorem sgn_neg {hi lo : Int} (h : hi < 0) : Hid (sgn hi lo = -1) := by show sgn hi lo = -1; simp [sgn, h]
theorem sgn_pos {hi lo : Int} (h : 0 ≤ hi) (k : ¬ (hi = 0 ∧ lo = 0)) : Hid (sgn hi lo = 1) := by
  show sgn hi lo = 1
  unfold sgn
  rw [if_neg (by omega), if_neg k]
theorem sgn_zero {hi lo : Int} (h : hi = 0) (k : lo = 0) : Hid (sgn hi lo = 0) := by
  show sgn hi lo = 0
  subst h k
  rfl

theorem least (f o : ByteArray) (w : World) (h : f.size + o.size ≤ 1048576) :
    Calls Try.prog 4 #[.string f, .string o, .int .i64 (-9223372036854775808), .int .u64 0] w fun e w' => e = .returned (.bool true) ∧ Below w.heap.size w w' := by
  go_enter Try.func4, Try.ntmps4
  go_wp2_with (go_at_call 7; refine (bytes_yes _ _ _ _ _ h).mono ?_; rintro e w1 ⟨rfl, rfl⟩)
  go_ret
  exact ⟨rfl, Below.refl _ _⟩

theorem bd_i64 {n : Int} (h : (Lit.int .i64 n).wf = true) : -9223372036854775808 ≤ n ∧ n ≤ 9223372036854775807 := by
  have a1 : IntKind.i64.min = -9223372036854775808 := rfl
  have a2 : IntKind.i64.max = 9223372036854775807 := rfl
  simp only [Lit.wf, Bool.and_eq_true, decide_eq_true_eq] at h
  omega
theorem bd_u64 {n : Int} (h : (Lit.int .u64 n).wf = true) : 0 ≤ n ∧ n < 18446744073709551616 := by
  have a1 : IntKind.u64.min = 0 := rfl
  have a2 : IntKind.u64.max = 18446744073709551615 := rfl
  simp only [Lit.wf, Bool.and_eq_true, decide_eq_true_eq] at h
  omega

theorem law_any (f o : ByteArray) (hi lo : Int) (hf : f.size ≤ maxLen) (ho : o.size ≤ maxLen) (h2 : (Lit.int .i64 hi).wf = true) (h3 : (Lit.int .u64 lo).wf = true) (w : World) :
    Calls Try.prog 4 #[.string f, .string o, .int .i64 hi, .int .u64 lo] w fun e w' => e = .returned (.bool true) ∧ Below w.heap.size w w' := by
  obtain ⟨a1, a2⟩ := bd_i64 h2
  obtain ⟨b1, b2⟩ := bd_u64 h3
  by_cases h : f.size + o.size ≤ 1048576
  · by_cases z : lo = 0
    · have z' : (lo == 0) = true := by simp [z]
      by_cases m : hi = -9223372036854775808
      · subst m z
        exact least f o w h
      · have m' : (hi == -9223372036854775808) = false := by simp [m]
        have e := nhi_eq hi (by omega) a2
        have e2 := nlo_eq lo b1 b2
        by_cases c : hi < 0
        · exact z_neg f o hi lo w h m' (by simp; omega) z' (sgn_neg c) (by rw [e]; exact sgn_pos (by omega) (by omega))
        · by_cases c0 : hi = 0
          · exact z_zero f o hi lo w h m' (by simp [c0]) z' (sgn_zero c0 z) (by rw [e, e2]; exact sgn_zero (by omega) (by omega))
          · exact z_pos f o hi lo w h m' (by simp [c0]) z' (sgn_pos (by omega) (by omega)) (by rw [e]; exact sgn_neg (by omega))
    · have z' : (lo == 0) = false := by simp [z]
      have e := not_i64 hi a1 a2
      have e2 := nlo_eq lo b1 b2
      by_cases c : hi < 0
      · have H2 : Hid (sgn (bits .xor .i64 (-1) hi) (IntKind.u64.wrap (bits .xor .u64 IntKind.u64.max lo + 1)) = 1) := by rw [e, e2]; exact sgn_pos (by omega) (by omega)
        by_cases m : hi = -9223372036854775808
        · exact nz_neg_min f o hi lo w h (by simp [m]) (by simp; omega) z' (sgn_neg c) H2
        · exact nz_neg f o hi lo w h (by simp [m]) (by simp; omega) z' (sgn_neg c) H2
      · have H2 : Hid (sgn (bits .xor .i64 (-1) hi) (IntKind.u64.wrap (bits .xor .u64 IntKind.u64.max lo + 1)) = -1) := by rw [e]; exact sgn_neg (by omega)
        have m' : (hi == -9223372036854775808) = false := by simp; omega
        by_cases c0 : hi = 0
        · exact nz_pos0 f o hi lo w h m' (by simp [c0]) z' (sgn_pos (by omega) (by omega)) H2
        · exact nz_pos f o hi lo w h m' (by simp [c0]) z' (sgn_pos (by omega) (by omega)) H2
  · exact law_great f o hi lo w hf ho h
end Go.Proofs.Qxb6605577a.Mirror
