/-
  THE WALKS of 'FnAllDigitsCountsDigits' and what it calls: each Go function computes a plain function.
-/
import Derived.Test.Qxb6605577aChecked
import Derived.Test.Qxb6605577aDigitsPlain
import Derived.WalkKit
import Derived.WalkLawsBesides
import Derived.WalkSpells
import Derived.Laws.IdiomStrings
import Derived.Below
namespace Go.Proofs.Qxb6605577a.Digits
open Go.RowKit

theorem empty_walk (s : ByteArray) (w : World) (he : s.toList.isEmpty = true) :
    Calls Try.prog 10 #[.string s] w fun e w' => e = .returned (.bool false) ∧ w = w' := by
  go_enter Try.func10, Try.ntmps10
  go_wp2
  go_ret
  exact ⟨rfl, rfl⟩

theorem cells (s : ByteArray) (cap : Nat) (w : World) (k : Nat) (h : k < s.size) (m : Nat × Nat) :
    (w.alloc (.cells (bytesRow s cap) 5 m)).cell? ⟨w.heap.size, k, none⟩ = some (.int .u8 (s[k].toNat : Int)) := by
  rw [World.cell?_alloc_mark, bytesRow_at s cap k h]
  rfl

theorem ret_no (s : ByteArray) (k : Nat) (h : k < s.size) {cv : Int} (hc : Hid (cv = (s[k].toNat : Int))) (hd : cv < 48 ∨ 57 < cv) : Ending.returned (.bool false) = .returned (.bool (alld s.data.toList)) := by
  rw [alld_no s k h]
  have := hc.out
  unfold dig
  rw [decide_eq_false_iff_not]
  omega

theorem ret_yes (s : ByteArray) (hne : s.toList.isEmpty = false) (HA : Hid ((s.data.toList.take s.size).all dig = true)) : Ending.returned (.bool true) = .returned (.bool (alld s.data.toList)) := by
  rw [alld_yes s hne HA.out]

theorem all_step (s : ByteArray) (k : Nat) (h : k < s.size) {cv : Int} (HA : Hid ((s.data.toList.take k).all dig = true)) (hc : Hid (cv = (s[k].toNat : Int))) (hd : 48 ≤ cv ∧ cv ≤ 57) :
    (s.data.toList.take (k + 1)).all dig = true := by
  rw [take_snoc s k h, all_snoc, HA.out, Bool.true_and]
  have := hc.out
  unfold dig
  rw [decide_eq_true_eq]
  omega

set_option maxHeartbeats 400000 in
theorem loop_walk (s : ByteArray) (w : World) (hs : s.size ≤ 1048576) (hne : s.toList.isEmpty = false) :
    Calls Try.prog 10 #[.string s] w fun e w' => e = .returned (.bool (alld s.data.toList)) ∧ Below w.heap.size w w' := by
  have hcv := fun w => run_bytes_of_string (P := Try.prog) w 9 36 5 s Try.underlying9 Try.underlying36 Try.underlying5
  have hc := cells s (grownCap w s.size 0 5) w
  go_enter Try.func10, Try.ntmps10
  go_wp2
  go_loop [10] (fun i => ∃ k : Nat, k ≤ s.size ∧ i = .int .i64 k ∧ (s.data.toList.take k).all dig = true) (fun i => s.size - (intOf i).toNat)
  case atStart => exact ⟨0, Nat.zero_le _, rfl, rfl⟩
  case round =>
    obtain ⟨k, hk, rfl, hall⟩ := hrel
    have HA : Hid ((s.data.toList.take k).all dig = true) := hall
    clear hall
    by_cases hlt : k < s.size
    · have hcell := hc k hlt
      obtain ⟨cv, hcv⟩ : ∃ cv : Int, cv = (s[k].toNat : Int) := ⟨_, rfl⟩
      rw [← hcv] at hcell
      have HC : Hid (cv = (s[k].toNat : Int)) := hcv
      clear hcv hc
      go_wp2
      · go_ret
        exact ⟨ret_no s k hlt HC (by assumption), ((Below.refl _ _).alloc (Nat.le_refl _) _).drew⟩
      · have hd : 48 ≤ cv ∧ cv ≤ 57 := by assumption
        go_round
        case rel => exact ⟨k + 1, by omega, by go_num, all_step s k hlt HA HC hd⟩
        case measure => simp [intOf]; omega
      · have hd : cv < 48 := by assumption
        go_ret
        exact ⟨ret_no s k hlt HC (Or.inl hd), ((Below.refl _ _).alloc (Nat.le_refl _) _).drew⟩
    · clear hc
      have he : k = s.size := by omega
      subst he
      go_wp2
      go_ret
      exact ⟨ret_yes s hne HA, ((Below.refl _ _).alloc (Nat.le_refl _) _).drew⟩

theorem all_any (s : ByteArray) (w : World) (hs : s.size ≤ 1048576) :
    Calls Try.prog 10 #[.string s] w fun e w' => e = .returned (.bool (alld s.data.toList)) ∧ Below w.heap.size w w' := by
  cases he : s.toList.isEmpty
  · exact loop_walk s w hs he
  · refine (empty_walk s w he).mono ?_
    rintro e w' ⟨rfl, rfl⟩
    refine ⟨?_, Below.refl _ _⟩
    unfold alld
    rw [Lib.toList_data] at he
    simp [he]

theorem zz_any (s : ByteArray) (w : World) (hs : s.size ≤ 1048576) :
    Calls Try.prog 6 #[.string s] w fun e w' => e = .returned (.bool (alld s.data.toList)) ∧ Below w.heap.size w w' := by
  go_enter Try.func6, Try.ntmps6
  go_wp2_with (go_at_call 10; refine (all_any _ _ hs).mono ?_; rintro e w' ⟨rfl, hb⟩)
  go_ret
  exact ⟨rfl, by assumption⟩

theorem bytes_yes (s : ByteArray) (w : World) (hs : s.size ≤ 1048576) :
    Calls Try.prog 5 #[.string s] w fun e w' => e = .returned (.bool true) ∧ w = w' := by
  have h1 : decide ((1048576 : Int) < (s.size : Int)) = false := by simp; omega
  go_enter Try.func5, Try.ntmps5
  go_wp2
  go_ret
  exact ⟨rfl, rfl⟩

theorem bytes_no (s : ByteArray) (w : World) (hs : 1048576 < s.size) :
    Calls Try.prog 5 #[.string s] w fun e w' => e = .returned (.bool false) ∧ w = w' := by
  go_enter Try.func5, Try.ntmps5
  go_wp2
  go_ret
  exact ⟨rfl, rfl⟩

theorem byte_lt (c : UInt8) : (c.toNat : Int) < 256 := by have := c.toNat_lt; omega

theorem cnt_hit (s : ByteArray) (k : Nat) (h : k < s.size) {n : Nat} (HN : Hid (n = cnt (s.data.toList.take k))) (hd : ((s[k].toNat : Int) - 48) % 256 < 10) :
    Value.int IntKind.i64 ((n : Int) + 1) = .int .i64 (cnt (s.data.toList.take (k + 1)) : Nat) := by
  have hb := byte_lt s[k]
  have e : dig s[k] = true := by unfold dig; rw [decide_eq_true_eq]; omega
  rw [take_snoc s k h, cnt_snoc, if_pos e, ← HN.out]
  go_num

theorem cnt_miss (s : ByteArray) (k : Nat) (h : k < s.size) {n : Nat} (HN : Hid (n = cnt (s.data.toList.take k))) (hd : 10 ≤ ((s[k].toNat : Int) - 48) % 256) :
    Value.int IntKind.i64 (n : Int) = .int .i64 (cnt (s.data.toList.take (k + 1)) : Nat) := by
  have hb := byte_lt s[k]
  have e : ¬ dig s[k] = true := by unfold dig; rw [decide_eq_true_eq]; omega
  rw [take_snoc s k h, cnt_snoc, if_neg e, ← HN.out]
  go_num

theorem end_some (s : ByteArray) (h0 : 0 < s.size) {n : Nat} {b : Bool} (HN : Hid (n = cnt (s.data.toList.take s.size))) (HB : Hid (b = alld s.data.toList)) :
    Ending.returned (.bool (b == ((n : Int) == (s.size : Int)))) = .returned (.bool true) := by
  have e : s.data.toList.take s.size = s.data.toList := List.take_of_length_le (by simp)
  have hn := HN.out
  rw [e] at hn
  have hl : s.data.toList.length = s.size := by simp
  have hne : s.data.toList ≠ [] := by intro h; rw [h] at hl; simp at hl; omega
  have hb : b = decide (n = s.size) := by rw [HB.out, alld_eq _ hne, ← hn, hl]
  have h2 : ((n : Int) == (s.size : Int)) = decide (n = s.size) := by rw [Bool.eq_iff_iff]; simp only [beq_iff_eq, decide_eq_true_eq]; omega
  rw [h2, hb]
  simp

theorem end_none (s : ByteArray) (h0 : ¬ 0 < s.size) {b : Bool} (HB : Hid (b = alld s.data.toList)) : Ending.returned (.bool (!b)) = .returned (.bool true) := by
  rw [HB.out]
  have hl : s.data.toList.length = s.size := by simp
  have hne : s.data.toList = [] := List.length_eq_zero_iff.1 (by omega)
  rw [hne]
  rfl

theorem law_great (s : ByteArray) (w : World) (hs : 1048576 < s.size) :
    Calls Try.prog 3 #[.string s] w fun e w' => e = .returned (.bool true) ∧ Below w.heap.size w w' := by
  go_enter Try.func3, Try.ntmps3
  go_wp2_with (go_at_call 5; refine (bytes_no _ _ hs).mono ?_; rintro e w' ⟨rfl, rfl⟩)
  go_ret
  exact ⟨rfl, Below.refl _ _⟩

set_option maxHeartbeats 400000 in
theorem law_small (s : ByteArray) (w : World) (hs : s.size ≤ 1048576) :
    Calls Try.prog 3 #[.string s] w fun e w' => e = .returned (.bool true) ∧ Below w.heap.size w w' := by
  have h1 : decide ((1048576 : Int) < (s.size : Int)) = false := by simp; omega
  obtain ⟨b, hb⟩ : ∃ b, b = alld s.data.toList := ⟨_, rfl⟩
  have HB : Hid (b = alld s.data.toList) := hb
  have hz := fun w => zz_any s w hs
  rw [← hb] at hz
  clear hb
  have HZ : Hid (∀ w, Calls Try.prog 6 #[.string s] w fun e w' => e = .returned (.bool b) ∧ Below w.heap.size w w') := hz
  clear hz
  go_enter Try.func3, Try.ntmps3
  go_wp2_with (first | (go_at_call 5; refine (bytes_yes _ _ hs).mono ?_; rintro e w' ⟨rfl, rfl⟩) | (go_at_call 6; refine (HZ.out _).mono ?_; rintro e w' ⟨rfl, hbel⟩))
  go_loop [4, 5] (fun n i => ∃ k : Nat, k ≤ s.size ∧ i = .int .i64 k ∧ n = .int .i64 (cnt (s.data.toList.take k) : Nat)) (fun _ i => s.size - (intOf i).toNat)
  case atStart => exact ⟨0, Nat.zero_le _, rfl, rfl⟩
  case round =>
    obtain ⟨k, hk, rfl, rfl⟩ := hrel
    have hcl : cnt (s.data.toList.take k) ≤ k := Nat.le_trans (cnt_le _) (List.length_take_le _ _)
    obtain ⟨n, hn⟩ : ∃ n, n = cnt (s.data.toList.take k) := ⟨_, rfl⟩
    have HN : Hid (n = cnt (s.data.toList.take k)) := hn
    rw [← hn] at hcl ⊢
    clear hn
    by_cases hlt : k < s.size
    · go_wp2
      · have hd : ((s[k].toNat : Int) - 48) % 256 < 10 := by assumption
        go_round
        case rel => exact ⟨k + 1, by omega, by go_num, cnt_hit s k hlt HN hd⟩
        case measure => simp [intOf]; omega
      · have hd : 10 ≤ ((s[k].toNat : Int) - 48) % 256 := by assumption
        go_round
        case rel => exact ⟨k + 1, by omega, by go_num, cnt_miss s k hlt HN hd⟩
        case measure => simp [intOf]; omega
    · have he : k = s.size := by omega
      subst he
      by_cases h0 : 0 < s.size
      · go_wp2
        go_ret
        refine ⟨?_, hbel⟩
        exact end_some s h0 HN HB
      · go_wp2
        go_ret
        refine ⟨?_, hbel⟩
        exact end_none s h0 HB

theorem law_any (s : ByteArray) (w : World) :
    Calls Try.prog 3 #[.string s] w fun e w' => e = .returned (.bool true) ∧ Below w.heap.size w w' := by
  by_cases h : s.size ≤ 1048576
  · exact law_small s w h
  · exact law_great s w (by omega)
end Go.Proofs.Qxb6605577a.Digits
