/-
  THE PLAIN LAW of 'FnAllDigitsCountsDigits': no Go in sight.
-/
import Derived.Lib.Strings
namespace Go.Proofs.Qxb6605577a.Digits

/-- Is the byte a digit? -/
def dig (c : UInt8) : Bool := decide (48 ≤ (c.toNat : Int) ∧ (c.toNat : Int) ≤ 57)
/-- How many digits. -/
def cnt (l : List UInt8) : Nat := (l.filter dig).length
/-- What 'allDigits' answers. -/
def alld (l : List UInt8) : Bool := !l.isEmpty && l.all dig

theorem cnt_le (l : List UInt8) : cnt l ≤ l.length := List.length_filter_le _ _

theorem take_snoc (s : ByteArray) (k : Nat) (h : k < s.size) : s.data.toList.take (k + 1) = s.data.toList.take k ++ [s[k]] := by
  rw [List.take_succ_eq_append_getElem (by simpa using h)]; rfl

theorem cnt_snoc (l : List UInt8) (c : UInt8) : cnt (l ++ [c]) = cnt l + if dig c = true then 1 else 0 := by
  unfold cnt
  rw [List.filter_append, List.length_append]
  by_cases h : dig c = true <;> simp [h]

theorem all_snoc (l : List UInt8) (c : UInt8) : (l ++ [c]).all dig = (l.all dig && dig c) := by simp

theorem cnt_all (l : List UInt8) : (cnt l = l.length) ↔ l.all dig = true := by
  unfold cnt
  rw [List.length_filter_eq_length_iff]
  simp

theorem alld_eq (l : List UInt8) (h : l ≠ []) : alld l = decide (cnt l = l.length) := by
  unfold alld
  have h1 : l.isEmpty = false := by simp [h]
  rw [h1, Bool.eq_iff_iff]
  simp only [Bool.not_false, Bool.true_and, decide_eq_true_eq]
  exact (cnt_all l).symm

/-- one byte that is no digit says no -/
theorem alld_no (s : ByteArray) (k : Nat) (h : k < s.size) (hd : dig s[k] = false) : alld s.data.toList = false := by
  unfold alld
  have : s.data.toList.all dig = false := by
    rw [List.all_eq_false]
    exact ⟨s[k], Array.getElem_mem_toList _, by simp [hd]⟩
  simp [this]

theorem alld_yes (s : ByteArray) (hne : s.toList.isEmpty = false) (h : (s.data.toList.take s.size).all dig = true) : alld s.data.toList = true := by
  unfold alld
  have e : s.data.toList.take s.size = s.data.toList := List.take_of_length_le (by simp)
  rw [e] at h
  rw [Lib.toList_data] at hne
  simp [h, hne]
end Go.Proofs.Qxb6605577a.Digits
