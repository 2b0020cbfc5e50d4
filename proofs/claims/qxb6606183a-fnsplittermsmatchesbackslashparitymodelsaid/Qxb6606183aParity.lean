/-
  THE WALK of FnSplitTermsMatchesBackslashParityModel.
-/
import Derived.Test.Qxb6606183aModel
import Derived.Test.Qxb6606183aEq
namespace Go.Proofs.Qxb6606183a
open Go.RowKit

theorem bytesP_no (s : ByteArray) (w : World) (h : 1048576 < s.size) : Calls Try.prog 7 #[.string s] w fun e w' => e = .returned (.bool false) ∧ w = w' := by
  go_enter Try.func7, Try.ntmps7
  go_wp2
  go_ret
  exact ⟨rfl, rfl⟩
theorem bytesP_yes (s : ByteArray) (w : World) (h : s.size ≤ 1048576) : Calls Try.prog 7 #[.string s] w fun e w' => e = .returned (.bool true) ∧ w = w' := by
  go_enter Try.func7, Try.ntmps7
  go_wp2
  go_ret
  exact ⟨rfl, rfl⟩

theorem law_parity (s : ByteArray) (w : World) : Calls Try.prog 3 #[.string s] w fun e w' => e = .returned (.bool true) ∧ Below w.heap.size w w' := by
  by_cases h : s.size ≤ 1048576
  · go_enter Try.func3, Try.ntmps3
    go_wp2_with fail
    refine (bytesP_yes s w h).mono ?_
    rintro e w' ⟨rfl, rfl⟩
    go_wp2_with fail
    refine (zzSplit s w (by omega)).mono ?_
    rintro e w1 ⟨⟨a1, c1, rfl, hs1⟩, hb1⟩
    have HS1 : Hid (Shows w1 a1 (terms s).length (fun i => .string ((terms s).getD i ByteArray.empty))) := hs1
    have HB1 : Hid (Below w.heap.size w w1) := hb1
    clear hs1 hb1
    go_wp2_with fail
    refine (model_walk s w1 (by omega)).mono ?_
    rintro e w2 ⟨⟨a2, c2, rfl, hs2⟩, hb2⟩
    have HS2 : Hid (Shows w2 a2 (terms s).length (fun i => .string ((terms s).getD i ByteArray.empty))) := hs2
    have HS3 : Hid (Shows w2 a1 (terms s).length (fun i => .string ((terms s).getD i ByteArray.empty))) := HS1.out.below hb2 (Nat.le_refl _)
    have HB2 : Hid (Below w.heap.size w w2) := HB1.out.trans (hb2.mono HB1.out.size)
    clear hs2 hb2 HS1 HB1
    go_wp2_with fail
    refine (strsEq_of (by have := terms_length s; omega) HS3.out HS2.out).mono ?_
    rintro e w3 ⟨rfl, m, rfl⟩
    go_wp2
    go_ret
    exact ⟨rfl, below_drewN HB2.out m⟩
  · go_enter Try.func3, Try.ntmps3
    go_wp2_with fail
    refine (bytesP_no s w (by omega)).mono ?_
    rintro e w' ⟨rfl, rfl⟩
    go_wp2
    go_ret
    exact ⟨rfl, Below.refl _ _⟩
end Go.Proofs.Qxb6606183a
