/-
  THE WALKS of 'FnDirectionMirrorsUnderNegation' and what it calls.
-/
import Derived.Test.Qxb6605577aChecked
import Derived.WalkKit
import Derived.WalkLawsBesides
import Derived.WalkSpells
import Derived.Below
namespace Go.Proofs.Qxb6605577a.Mirror
open Go.RowKit

theorem make_int (hi lo : Int) (w : World) :
    Calls Try.prog 11 #[.int .i64 hi, .int .u64 lo] w fun e w' => e = .returned (.agg #[.int .i64 hi, .int .u64 lo]) ∧ w.alloc (.cells #[.int .i64 hi, .int .u64 lo] 27) = w' := by
  go_enter Try.func11, Try.ntmps11
  go_wp2
  exact bodyPost_ret (v := .agg #[.int .i64 hi, .int .u64 lo]) (by simp [results, Try.results11, go_sem]) rfl ⟨rfl, rfl⟩

theorem make_total (hi lo : Int) (w : World) :
    Calls Try.prog 8 #[.int .i64 hi, .int .u64 lo] w fun e w' => e = .returned (.agg #[.int .i64 hi, .int .u64 lo]) ∧
      (w.alloc (.cells #[.int .i64 hi, .int .u64 lo] 29)).alloc (.cells #[.int .i64 hi, .int .u64 lo] 27) = w' := by
  go_enter Try.func8, Try.ntmps8
  go_wp2_with (go_at_call 11; refine (make_int _ _ _).mono ?_; rintro e w1 ⟨rfl, rfl⟩)
  refine bodyPost_ret (v := .agg #[.int .i64 hi, .int .u64 lo]) (by simp [results, Try.results8, go_sem]) rfl ⟨rfl, ?_⟩
  rfl

/-- The sign of hi x 2^64 + lo. -/
def sgn (hi lo : Int) : Int := if hi < 0 then -1 else if hi = 0 ∧ lo = 0 then 0 else 1

theorem int_sign (hi lo : Int) (w : World) :
    Calls Try.prog 13 #[.agg #[.int .i64 hi, .int .u64 lo]] w fun e w' => e = .returned (.int .i64 (sgn hi lo)) ∧ w.alloc (.cells #[.int .i64 hi, .int .u64 lo] 27) = w' := by
  by_cases h : hi < 0
  · have e : sgn hi lo = -1 := by simp [sgn, h]
    rw [e]
    go_enter Try.func13, Try.ntmps13
    go_wp2
    go_ret
    exact ⟨rfl, rfl⟩
  · by_cases h0 : hi = 0
    · subst h0
      by_cases hl : lo = 0
      · subst hl
        have e : sgn 0 0 = 0 := by simp [sgn]
        rw [e]
        go_enter Try.func13, Try.ntmps13
        go_wp2
        go_ret
        exact ⟨rfl, rfl⟩
      · have e : sgn 0 lo = 1 := by simp [sgn, hl]
        rw [e]
        have hl' : (lo == 0) = false := by simp [hl]
        go_enter Try.func13, Try.ntmps13
        go_wp2
        go_ret
        exact ⟨rfl, rfl⟩
    · have e : sgn hi lo = 1 := by simp [sgn, h, h0]
      rw [e]
      have h0' : (hi == 0) = false := by simp [h0]
      go_enter Try.func13, Try.ntmps13
      go_wp2
      go_ret
      exact ⟨rfl, rfl⟩

theorem total_sign (hi lo : Int) (w : World) :
    Calls Try.prog 12 #[.agg #[.int .i64 hi, .int .u64 lo]] w fun e w' => e = .returned (.int .i64 (sgn hi lo)) ∧
      (w.alloc (.cells #[.int .i64 hi, .int .u64 lo] 29)).alloc (.cells #[.int .i64 hi, .int .u64 lo] 27) = w' := by
  go_enter Try.func12, Try.ntmps12
  go_wp2_with (go_at_call 13; refine (int_sign _ _ _).mono ?_; rintro e w1 ⟨rfl, rfl⟩)
  go_ret
  exact ⟨rfl, rfl⟩

abbrev credit : ByteArray := { data := #[99, 114, 101, 100, 105, 116] }
abbrev requirement : ByteArray := { data := #[114, 101, 113, 117, 105, 114, 101, 109, 101, 110, 116] }
abbrev flat : ByteArray := { data := #[102, 108, 97, 116] }

/-- What Direction leaves in memory: three boxes. -/
abbrev behind (w : World) (f o : ByteArray) (hi lo : Int) : World :=
  ((w.alloc (.cells #[.string f, .string o, .int .i64 hi, .int .u64 lo] 32)).alloc (.cells #[.int .i64 hi, .int .u64 lo] 29)).alloc (.cells #[.int .i64 hi, .int .u64 lo] 27)

theorem total_sign_at (hi lo s : Int) (h : sgn hi lo = s) (w : World) :
    Calls Try.prog 12 #[.agg #[.int .i64 hi, .int .u64 lo]] w fun e w' => e = .returned (.int .i64 s) ∧
      (w.alloc (.cells #[.int .i64 hi, .int .u64 lo] 29)).alloc (.cells #[.int .i64 hi, .int .u64 lo] 27) = w' := by
  subst h
  exact total_sign hi lo w

theorem dir_pos (f o : ByteArray) (hi lo : Int) (H : Hid (sgn hi lo = 1)) (w : World) :
    Calls Try.prog 9 #[.agg #[.string f, .string o, .int .i64 hi, .int .u64 lo]] w fun e w' => e = .returned (.string credit) ∧ behind w f o hi lo = w' := by
  go_enter Try.func9, Try.ntmps9
  go_wp2_with (go_at_call 12; refine (total_sign_at _ _ 1 H.out _).mono ?_; rintro e w1 ⟨rfl, rfl⟩)
  go_ret
  exact ⟨rfl, rfl⟩

theorem dir_neg (f o : ByteArray) (hi lo : Int) (H : Hid (sgn hi lo = -1)) (w : World) :
    Calls Try.prog 9 #[.agg #[.string f, .string o, .int .i64 hi, .int .u64 lo]] w fun e w' => e = .returned (.string requirement) ∧ behind w f o hi lo = w' := by
  go_enter Try.func9, Try.ntmps9
  go_wp2_with (go_at_call 12; refine (total_sign_at _ _ (-1) H.out _).mono ?_; rintro e w1 ⟨rfl, rfl⟩)
  go_ret
  exact ⟨rfl, rfl⟩

theorem dir_zero (f o : ByteArray) (hi lo : Int) (H : Hid (sgn hi lo = 0)) (w : World) :
    Calls Try.prog 9 #[.agg #[.string f, .string o, .int .i64 hi, .int .u64 lo]] w fun e w' => e = .returned (.string flat) ∧ behind w f o hi lo = w' := by
  go_enter Try.func9, Try.ntmps9
  go_wp2_with (go_at_call 12; refine (total_sign_at _ _ 0 H.out _).mono ?_; rintro e w1 ⟨rfl, rfl⟩)
  go_ret
  exact ⟨rfl, rfl⟩

theorem bytes_yes (f o : ByteArray) (hi lo : Int) (w : World) (h : f.size + o.size ≤ 1048576) :
    Calls Try.prog 7 #[.string f, .string o, .int .i64 hi, .int .u64 lo] w fun e w' => e = .returned (.bool true) ∧ w = w' := by
  go_enter Try.func7, Try.ntmps7
  go_wp2
  go_ret
  exact ⟨rfl, rfl⟩

theorem bytes_no (f o : ByteArray) (hi lo : Int) (w : World) (hf : f.size ≤ maxLen) (ho : o.size ≤ maxLen) (h : ¬ f.size + o.size ≤ 1048576) :
    Calls Try.prog 7 #[.string f, .string o, .int .i64 hi, .int .u64 lo] w fun e w' => e = .returned (.bool false) ∧ w = w' := by
  unfold maxLen at hf ho
  by_cases h1 : 1048576 < f.size
  · go_enter Try.func7, Try.ntmps7
    go_wp2
    go_ret
    exact ⟨rfl, rfl⟩
  · by_cases h2 : 1048576 < o.size
    · go_enter Try.func7, Try.ntmps7
      go_wp2
      go_ret
      exact ⟨rfl, rfl⟩
    · go_enter Try.func7, Try.ntmps7
      go_wp2
      go_ret
      exact ⟨rfl, rfl⟩

theorem law_great (f o : ByteArray) (hi lo : Int) (w : World) (hf : f.size ≤ maxLen) (ho : o.size ≤ maxLen) (h : ¬ f.size + o.size ≤ 1048576) :
    Calls Try.prog 4 #[.string f, .string o, .int .i64 hi, .int .u64 lo] w fun e w' => e = .returned (.bool true) ∧ Below w.heap.size w w' := by
  go_enter Try.func4, Try.ntmps4
  go_wp2_with (go_at_call 7; refine (bytes_no _ _ _ _ _ hf ho h).mono ?_; rintro e w1 ⟨rfl, rfl⟩)
  go_ret
  exact ⟨rfl, Below.refl _ _⟩



theorem kept {w : World} (a b c d e f g h i j k l : Obj) : Below w.heap.size w ((((((((((((w.alloc a).alloc b).alloc c).alloc d).alloc e).alloc f).alloc g).alloc h).alloc i).alloc j).alloc k).alloc l) := by
  repeat (first | exact Below.refl _ _ | refine Below.alloc ?_ (by simp; try omega) _)

set_option maxHeartbeats 400000 in
theorem nz_neg_min (f o : ByteArray) (hi lo : Int) (w : World) (h : f.size + o.size ≤ 1048576) (hm : (hi == -9223372036854775808) = true) (h0 : (hi == 0) = false) (h3 : (lo == 0) = false) (H1 : Hid (sgn hi lo = -1))
    (H2 : Hid (sgn (bits .xor .i64 (-1) hi) (IntKind.u64.wrap (bits .xor .u64 IntKind.u64.max lo + 1)) = 1)) :
    Calls Try.prog 4 #[.string f, .string o, .int .i64 hi, .int .u64 lo] w fun e w' => e = .returned (.bool true) ∧ Below w.heap.size w w' := by
  go_enter Try.func4, Try.ntmps4
  go_wp2_with (first | (go_at_call 7; refine (bytes_yes _ _ _ _ _ h).mono ?_; rintro e w1 ⟨rfl, rfl⟩) | (go_at_call 8; refine (make_total _ _ _).mono ?_; rintro e w1 ⟨rfl, rfl⟩))
  refine (dir_neg f o hi lo H1 _).mono ?_
  rintro e w1 ⟨rfl, rfl⟩
  go_wp2_with fail
  refine (dir_pos f o _ _ H2 _).mono ?_
  rintro e w1 ⟨rfl, rfl⟩
  go_wp2
  go_ret
  exact ⟨rfl, kept _ _ _ _ _ _ _ _ _ _ _ _⟩

set_option maxHeartbeats 400000 in
theorem nz_neg (f o : ByteArray) (hi lo : Int) (w : World) (h : f.size + o.size ≤ 1048576) (hm : (hi == -9223372036854775808) = false) (h0 : (hi == 0) = false) (h3 : (lo == 0) = false) (H1 : Hid (sgn hi lo = -1))
    (H2 : Hid (sgn (bits .xor .i64 (-1) hi) (IntKind.u64.wrap (bits .xor .u64 IntKind.u64.max lo + 1)) = 1)) :
    Calls Try.prog 4 #[.string f, .string o, .int .i64 hi, .int .u64 lo] w fun e w' => e = .returned (.bool true) ∧ Below w.heap.size w w' := by
  go_enter Try.func4, Try.ntmps4
  go_wp2_with (first | (go_at_call 7; refine (bytes_yes _ _ _ _ _ h).mono ?_; rintro e w1 ⟨rfl, rfl⟩) | (go_at_call 8; refine (make_total _ _ _).mono ?_; rintro e w1 ⟨rfl, rfl⟩))
  refine (dir_neg f o hi lo H1 _).mono ?_
  rintro e w1 ⟨rfl, rfl⟩
  go_wp2_with fail
  refine (dir_pos f o _ _ H2 _).mono ?_
  rintro e w1 ⟨rfl, rfl⟩
  go_wp2
  go_ret
  exact ⟨rfl, kept _ _ _ _ _ _ _ _ _ _ _ _⟩

set_option maxHeartbeats 400000 in
theorem nz_pos (f o : ByteArray) (hi lo : Int) (w : World) (h : f.size + o.size ≤ 1048576) (hm : (hi == -9223372036854775808) = false) (h0 : (hi == 0) = false) (h3 : (lo == 0) = false) (H1 : Hid (sgn hi lo = 1))
    (H2 : Hid (sgn (bits .xor .i64 (-1) hi) (IntKind.u64.wrap (bits .xor .u64 IntKind.u64.max lo + 1)) = -1)) :
    Calls Try.prog 4 #[.string f, .string o, .int .i64 hi, .int .u64 lo] w fun e w' => e = .returned (.bool true) ∧ Below w.heap.size w w' := by
  go_enter Try.func4, Try.ntmps4
  go_wp2_with (first | (go_at_call 7; refine (bytes_yes _ _ _ _ _ h).mono ?_; rintro e w1 ⟨rfl, rfl⟩) | (go_at_call 8; refine (make_total _ _ _).mono ?_; rintro e w1 ⟨rfl, rfl⟩))
  refine (dir_pos f o hi lo H1 _).mono ?_
  rintro e w1 ⟨rfl, rfl⟩
  go_wp2_with fail
  refine (dir_neg f o _ _ H2 _).mono ?_
  rintro e w1 ⟨rfl, rfl⟩
  go_wp2
  go_ret
  exact ⟨rfl, kept _ _ _ _ _ _ _ _ _ _ _ _⟩

set_option maxHeartbeats 400000 in
theorem nz_pos0 (f o : ByteArray) (hi lo : Int) (w : World) (h : f.size + o.size ≤ 1048576) (hm : (hi == -9223372036854775808) = false) (h0 : (hi == 0) = true) (h3 : (lo == 0) = false) (H1 : Hid (sgn hi lo = 1))
    (H2 : Hid (sgn (bits .xor .i64 (-1) hi) (IntKind.u64.wrap (bits .xor .u64 IntKind.u64.max lo + 1)) = -1)) :
    Calls Try.prog 4 #[.string f, .string o, .int .i64 hi, .int .u64 lo] w fun e w' => e = .returned (.bool true) ∧ Below w.heap.size w w' := by
  go_enter Try.func4, Try.ntmps4
  go_wp2_with (first | (go_at_call 7; refine (bytes_yes _ _ _ _ _ h).mono ?_; rintro e w1 ⟨rfl, rfl⟩) | (go_at_call 8; refine (make_total _ _ _).mono ?_; rintro e w1 ⟨rfl, rfl⟩))
  refine (dir_pos f o hi lo H1 _).mono ?_
  rintro e w1 ⟨rfl, rfl⟩
  go_wp2_with fail
  refine (dir_neg f o _ _ H2 _).mono ?_
  rintro e w1 ⟨rfl, rfl⟩
  go_wp2
  go_ret
  exact ⟨rfl, kept _ _ _ _ _ _ _ _ _ _ _ _⟩

set_option maxHeartbeats 400000 in
theorem z_neg (f o : ByteArray) (hi lo : Int) (w : World) (h : f.size + o.size ≤ 1048576) (hm : (hi == -9223372036854775808) = false) (h0 : (hi == 0) = false) (h3 : (lo == 0) = true) (H1 : Hid (sgn hi lo = -1))
    (H2 : Hid (sgn (wrap64 (bits .xor .i64 (-1) hi + 1)) (IntKind.u64.wrap (bits .xor .u64 IntKind.u64.max lo + 1)) = 1)) :
    Calls Try.prog 4 #[.string f, .string o, .int .i64 hi, .int .u64 lo] w fun e w' => e = .returned (.bool true) ∧ Below w.heap.size w w' := by
  go_enter Try.func4, Try.ntmps4
  go_wp2_with (first | (go_at_call 7; refine (bytes_yes _ _ _ _ _ h).mono ?_; rintro e w1 ⟨rfl, rfl⟩) | (go_at_call 8; refine (make_total _ _ _).mono ?_; rintro e w1 ⟨rfl, rfl⟩))
  refine (dir_neg f o hi lo H1 _).mono ?_
  rintro e w1 ⟨rfl, rfl⟩
  go_wp2_with fail
  refine (dir_pos f o _ _ H2 _).mono ?_
  rintro e w1 ⟨rfl, rfl⟩
  go_wp2
  go_ret
  exact ⟨rfl, kept _ _ _ _ _ _ _ _ _ _ _ _⟩

set_option maxHeartbeats 400000 in
theorem z_pos (f o : ByteArray) (hi lo : Int) (w : World) (h : f.size + o.size ≤ 1048576) (hm : (hi == -9223372036854775808) = false) (h0 : (hi == 0) = false) (h3 : (lo == 0) = true) (H1 : Hid (sgn hi lo = 1))
    (H2 : Hid (sgn (wrap64 (bits .xor .i64 (-1) hi + 1)) (IntKind.u64.wrap (bits .xor .u64 IntKind.u64.max lo + 1)) = -1)) :
    Calls Try.prog 4 #[.string f, .string o, .int .i64 hi, .int .u64 lo] w fun e w' => e = .returned (.bool true) ∧ Below w.heap.size w w' := by
  go_enter Try.func4, Try.ntmps4
  go_wp2_with (first | (go_at_call 7; refine (bytes_yes _ _ _ _ _ h).mono ?_; rintro e w1 ⟨rfl, rfl⟩) | (go_at_call 8; refine (make_total _ _ _).mono ?_; rintro e w1 ⟨rfl, rfl⟩))
  refine (dir_pos f o hi lo H1 _).mono ?_
  rintro e w1 ⟨rfl, rfl⟩
  go_wp2_with fail
  refine (dir_neg f o _ _ H2 _).mono ?_
  rintro e w1 ⟨rfl, rfl⟩
  go_wp2
  go_ret
  exact ⟨rfl, kept _ _ _ _ _ _ _ _ _ _ _ _⟩

set_option maxHeartbeats 400000 in
theorem z_zero (f o : ByteArray) (hi lo : Int) (w : World) (h : f.size + o.size ≤ 1048576) (hm : (hi == -9223372036854775808) = false) (h0 : (hi == 0) = true) (h3 : (lo == 0) = true) (H1 : Hid (sgn hi lo = 0))
    (H2 : Hid (sgn (wrap64 (bits .xor .i64 (-1) hi + 1)) (IntKind.u64.wrap (bits .xor .u64 IntKind.u64.max lo + 1)) = 0)) :
    Calls Try.prog 4 #[.string f, .string o, .int .i64 hi, .int .u64 lo] w fun e w' => e = .returned (.bool true) ∧ Below w.heap.size w w' := by
  go_enter Try.func4, Try.ntmps4
  go_wp2_with (first | (go_at_call 7; refine (bytes_yes _ _ _ _ _ h).mono ?_; rintro e w1 ⟨rfl, rfl⟩) | (go_at_call 8; refine (make_total _ _ _).mono ?_; rintro e w1 ⟨rfl, rfl⟩))
  refine (dir_zero f o hi lo H1 _).mono ?_
  rintro e w1 ⟨rfl, rfl⟩
  go_wp2_with fail
  refine (dir_zero f o _ _ H2 _).mono ?_
  rintro e w1 ⟨rfl, rfl⟩
  go_wp2
  go_ret
  exact ⟨rfl, kept _ _ _ _ _ _ _ _ _ _ _ _⟩

end Go.Proofs.Qxb6605577a.Mirror
