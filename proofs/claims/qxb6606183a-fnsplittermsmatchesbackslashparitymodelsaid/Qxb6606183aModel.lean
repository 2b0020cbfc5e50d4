/-
  THE WALK of zzSelB1ModelSplitTerms: the cuts by the parity of the run of backslashes ahead of a comma.
-/
import Derived.Test.Qxb6606183aSplit
namespace Go.Proofs.Qxb6606183a
open Go.RowKit

/-- How many backslashes stand right ahead of place k. -/
def runAt (l : List UInt8) : Nat → Nat
  | 0 => 0
  | k + 1 => if l.getD k 0 = 92 then runAt l k + 1 else 0

theorem runAt_le (l : List UInt8) : ∀ k, runAt l k ≤ k
  | 0 => Nat.le_refl _
  | k + 1 => by
    have := runAt_le l k
    unfold runAt
    split <;> omega

theorem getD_at (s : ByteArray) (k : Nat) (h : k < s.size) : (toL s).getD k 0 = s[k] := by
  have : k < (toL s).length := by rw [toL_length]; exact h
  simp [List.getD, this]
  rfl

theorem run_yes (s : ByteArray) (k : Nat) (h : k < s.size) (hc : s[k] = 92) : runAt (toL s) (k + 1) = runAt (toL s) k + 1 := by
  show (if (toL s).getD k 0 = 92 then _ else _) = _
  rw [getD_at s k h, if_pos hc]
theorem run_no (s : ByteArray) (k : Nat) (h : k < s.size) (hc : s[k] ≠ 92) : runAt (toL s) (k + 1) = 0 := by
  show (if (toL s).getD k 0 = 92 then _ else _) = _
  rw [getD_at s k h, if_neg hc]

/-- Is place k escaped? -/
def odd (s : ByteArray) (k : Nat) : Bool := decide (runAt (toL s) k % 2 = 1)

theorem odd_next (s : ByteArray) (k : Nat) (h : k < s.size) : odd s (k + 1) = ((s[k] == 92) && !odd s k) := by
  unfold odd
  by_cases hc : s[k] = 92
  · have e : (s[k] == 92) = true := by simp [hc]
    rw [run_yes s k h hc, e, Bool.true_and, ← decide_not, decide_eq_decide]
    omega
  · have e : (s[k] == 92) = false := by simp [hc]
    rw [run_no s k h hc, e]
    simp

/-- What holds at the outer loop's head. -/
def InvM (s : ByteArray) (T : List ByteArray) (a k : Nat) : Prop :=
  a ≤ k ∧ T.map toL ++ spF (odd s k) (toL (s.extract a k)) ((toL s).drop k) = split (toL s)

theorem InvM.start (s : ByteArray) : InvM s [] 0 0 := by
  refine ⟨Nat.le_refl _, ?_⟩
  have : toL (s.extract 0 0) = [] := by rw [toL_extract]; simp
  rw [this]
  rfl

theorem InvM.keep {s : ByteArray} {T : List ByteArray} {a k : Nat} (h : InvM s T a k) (hk : k < s.size) (hc : ¬ (s[k] = 44 ∧ odd s k = false)) : InvM s T a (k + 1) := by
  obtain ⟨h1, h2⟩ := h
  refine ⟨by omega, ?_⟩
  rw [← h2, drop_cons s k hk, spF_keep _ _ _ _ hc, cut_snoc s a k h1 hk, odd_next s k hk]

theorem InvM.cut {s : ByteArray} {T : List ByteArray} {a k : Nat} (h : InvM s T a k) (hk : k < s.size) (hc : s[k] = 44) (ho : odd s k = false) : InvM s (T ++ [s.extract a k]) (k + 1) (k + 1) := by
  obtain ⟨h1, h2⟩ := h
  refine ⟨Nat.le_refl _, ?_⟩
  rw [← h2, drop_cons s k hk, ho, hc, spF_comma, odd_next s k hk, hc, ho]
  have : toL (s.extract (k + 1) (k + 1)) = [] := by rw [toL_extract]; simp
  rw [this]
  simp

theorem InvM.finish {s : ByteArray} {T : List ByteArray} {a : Nat} (h : InvM s T a s.size) : T ++ [s.extract a s.size] = terms s := by
  obtain ⟨h1, h2⟩ := h
  apply eq_terms
  rw [← h2]
  have hd : (toL s).drop s.size = [] := List.drop_eq_nil_of_le (by rw [toL_length]; omega)
  rw [hd]
  simp [spF]

theorem one_str (x : ByteArray) : ∀ u ∈ [Value.string x], u.oneCell' = true := by
  intro u hu
  simp at hu
  subst hu
  rfl

theorem odd_of {s : ByteArray} {k t : Nat} (h : runAt (toL s) k = t) : odd s k = decide (t % 2 = 1) := by unfold odd; rw [h]

set_option maxHeartbeats 1000000 in
theorem model_walk (s : ByteArray) (w : World) (hs : s.size ≤ 4194304) :
    Calls Try.prog 10 #[.string s] w fun e w' => Strs w' e (terms s) ∧ Below w.heap.size w w' := by
  obtain ⟨i0, hi, hz0, hz1, hz2⟩ := info_parts Try.info9
  go_enter Try.func10, Try.ntmps10
  go_wp2
  go_loopw [3, 4, 5] (fun v st i wr => ∃ (T : List ByteArray) (a k : Nat), k ≤ s.size ∧ i = .int .i64 k ∧ st = .int .i64 a ∧ T.length ≤ k ∧ InvM s T a k ∧ HoldsS wr w.heap.size v T ∧ Below w.heap.size w wr) (fun _ _ i _ => s.size - (intOf i).toNat)
  case atStart => exact ⟨[], 0, 0, Nat.zero_le _, rfl, rfl, Nat.le_refl _, InvM.start s, World.ownsRow_nil _ _ _ _, Below.refl _ _⟩
  case round =>
    obtain ⟨T, a, k, hk, rfl, rfl, hT, hinv, hown, hbel⟩ := hrel
    have hak := hinv.1
    by_cases hlt : k < s.size
    · by_cases hc : s[k] = 44
      · have hcb : ((s[k].toNat : Int) != 44) = false := by rw [hc]; rfl
        have HC : Hid (s[k] = 44) := hc
        have HINV : Hid (InvM s T a k) := hinv
        clear hc hinv
        go_wp2
        go_loop [6, 7] (fun r j => ∃ m t : Nat, m + t = k ∧ r = .int .i64 t ∧ j = .int .i64 ((m : Int) - 1) ∧ runAt (toL s) k = t + runAt (toL s) m) (fun _ j => (intOf j + 1).toNat)
        case atStart => exact ⟨k, 0, rfl, rfl, rfl, by simp⟩
        case round =>
          obtain ⟨m, t, hmt, rfl, rfl, hrun⟩ := hrel
          have HR : Hid (runAt (toL s) k = t + runAt (toL s) m) := hrun
          clear hrun
          cases m with
          | zero =>
            have HRT : Hid (runAt (toL s) k = t) := by
              have := HR.out
              simp only [runAt, Nat.add_zero] at this
              exact this
            rw [show (((0 : Nat) : Int) - 1) = -1 from by omega]
            clear HR
            by_cases ht : t % 2 = 0
            · have ht' : ((t : Int) % 2 == 0) = true := beq_iff_eq.2 (by omega)
              have HI : Hid (InvM s (T ++ [s.extract a k]) (k + 1) (k + 1)) := HINV.out.cut hlt HC.out (by rw [odd_of HRT.out]; simp; omega)
              go_wp2_with (at_builtin; refine wpList_append_own _ rfl _ _ 24 rfl w.heap.size 9 i0 (.string ByteArray.empty) 1 16 Try.underlying24 hi hz0 hz1 hz2 rfl (by decide) _ _ _ rfl (hown.alloc _) ⟨wr.heap.size, 0, none⟩ 1 1 [.string (s.extract a k)] rfl rfl (cell_one_new _ _ _) (one_str _) (by unfold maxLen; omega) (by omega) (by have := hbel.size; simp; omega) ?_)
              intro v' w1 hown' hgrow _
              have HP : Hid (HoldsS w1 w.heap.size v' (T ++ [s.extract a k]) ∧ Below w.heap.size w w1) := HoldsS.push hown hbel hown' hgrow
              clear hown' hgrow hown hbel
              go_wp2
              go_roundw
              case rel => exact ⟨T ++ [s.extract a k], k + 1, k + 1, by omega, by go_num, by go_num, by simp; omega, HI.out, HP.out.1, HP.out.2⟩
              case measure => simp [intOf]; omega
            · have ht' : ((t : Int) % 2 == 0) = false := beq_eq_false_iff_ne.2 (by omega)
              have HI : Hid (InvM s T a (k + 1)) := HINV.out.keep hlt (fun c => by
                have := c.2
                rw [odd_of HRT.out] at this
                simp at this
                omega)
              go_wp2
              go_roundw
              case rel => exact ⟨T, a, k + 1, by omega, by go_num, rfl, by omega, HI.out, hown, hbel⟩
              case measure => simp [intOf]; omega
          | succ m =>
            rw [show (((m + 1 : Nat) : Int) - 1) = (m : Int) from by omega]
            have hm : m < s.size := by omega
            by_cases h92 : s[m] = 92
            · have hb : ((s[m].toNat : Int) == 92) = true := by rw [h92]; rfl
              have HN : Hid (runAt (toL s) k = (t + 1) + runAt (toL s) m) := by
                have h1 := HR.out
                rw [run_yes s m hm h92] at h1
                show runAt (toL s) k = _
                omega
              clear h92 HR
              go_wp2
              go_round
              case rel => exact ⟨m, t + 1, by omega, by go_num, rfl, HN.out⟩
              case measure => simp [intOf]
            · have hb : ((s[m].toNat : Int) == 92) = false := beq_eq_false_iff_ne.2 (fun e => h92 (is92 (by rw [e]; rfl)))
              have HRT : Hid (runAt (toL s) k = t) := by
                have h1 := HR.out
                rw [run_no s m hm h92] at h1
                exact h1
              clear h92 HR
              by_cases ht : t % 2 = 0
              · have ht' : ((t : Int) % 2 == 0) = true := beq_iff_eq.2 (by omega)
                have HI : Hid (InvM s (T ++ [s.extract a k]) (k + 1) (k + 1)) := HINV.out.cut hlt HC.out (by rw [odd_of HRT.out]; simp; omega)
                go_wp2_with (at_builtin; refine wpList_append_own _ rfl _ _ 24 rfl w.heap.size 9 i0 (.string ByteArray.empty) 1 16 Try.underlying24 hi hz0 hz1 hz2 rfl (by decide) _ _ _ rfl (hown.alloc _) ⟨wr.heap.size, 0, none⟩ 1 1 [.string (s.extract a k)] rfl rfl (cell_one_new _ _ _) (one_str _) (by unfold maxLen; omega) (by omega) (by have := hbel.size; simp; omega) ?_)
                intro v' w1 hown' hgrow _
                have HP : Hid (HoldsS w1 w.heap.size v' (T ++ [s.extract a k]) ∧ Below w.heap.size w w1) := HoldsS.push hown hbel hown' hgrow
                clear hown' hgrow hown hbel
                go_wp2
                go_roundw
                case rel => exact ⟨T ++ [s.extract a k], k + 1, k + 1, by omega, by go_num, by go_num, by simp; omega, HI.out, HP.out.1, HP.out.2⟩
                case measure => simp [intOf]; omega
              · have ht' : ((t : Int) % 2 == 0) = false := beq_eq_false_iff_ne.2 (by omega)
                have HI : Hid (InvM s T a (k + 1)) := HINV.out.keep hlt (fun c => by
                  have := c.2
                  rw [odd_of HRT.out] at this
                  simp at this
                  omega)
                go_wp2
                go_roundw
                case rel => exact ⟨T, a, k + 1, by omega, by go_num, rfl, by omega, HI.out, hown, hbel⟩
                case measure => simp [intOf]; omega
      · have hcb : ((s[k].toNat : Int) != 44) = true := by
          rw [bne_iff_ne]
          intro e
          exact hc (is44 (by rw [e]; rfl))
        have HI : Hid (InvM s T a (k + 1)) := hinv.keep hlt (fun c => hc c.1)
        clear hinv
        go_wp2
        go_roundw
        case rel => exact ⟨T, a, k + 1, by omega, by go_num, rfl, by omega, HI.out, hown, hbel⟩
        case measure => simp [intOf]; omega
    · have he : k = s.size := by omega
      subst he
      have HF : Hid (T ++ [s.extract a s.size] = terms s) := hinv.finish
      clear hinv
      go_wp2_with (at_builtin; refine wpList_append_own _ rfl _ _ 24 rfl w.heap.size 9 i0 (.string ByteArray.empty) 1 16 Try.underlying24 hi hz0 hz1 hz2 rfl (by decide) _ _ _ rfl (hown.alloc _) ⟨wr.heap.size, 0, none⟩ 1 1 [.string (s.extract a s.size)] rfl rfl (cell_one_new _ _ _) (one_str _) (by unfold maxLen; omega) (by omega) (by have := hbel.size; simp; omega) ?_)
      intro v' w1 hown' hgrow _
      have HP : Hid (HoldsS w1 w.heap.size v' (T ++ [s.extract a s.size]) ∧ Below w.heap.size w w1) := HoldsS.push hown hbel hown' hgrow
      clear hown' hgrow hown hbel
      go_wp2
      go_ret
      exact ⟨by rw [← HF.out]; exact HP.out.1.strs, HP.out.2⟩
end Go.Proofs.Qxb6606183a
