/-
  THE PLAIN LAW of a decimal numeral, read again: no Go in sight.
-/
import Derived.Lib.ItoaLen
import Derived.Lib.ParseIntB
namespace Go.Proofs.Qxb6606386aDoor

theorem digits_rec (u : Nat) (h : ¬ u < 10) : Lib.decDigits u = Lib.decDigits (u / 10) ++ [UInt8.ofNat (48 + u % 10)] := by
  rw [Lib.decDigits, dif_neg h]

theorem digit_nat (d : Nat) (h : d < 10) : (UInt8.ofNat (48 + d)).toNat = 48 + d := by
  simp
  omega

theorem parse_snoc (M : Nat) (c : UInt8) : ∀ (l : List UInt8) (acc u : Nat), Lib.parseUintM M acc l = .ok u → 48 ≤ c.toNat → c.toNat ≤ 57 → u < 1844674407370955162 → u * 10 + (c.toNat - 48) ≤ M →
    Lib.parseUintM M acc (l ++ [c]) = .ok (u * 10 + (c.toNat - 48))
  | [], acc, u, h, h1, h2, h3, h4 => by
    simp only [Lib.parseUintM, Lib.NumEnd.ok.injEq] at h
    subst h
    simp only [List.nil_append, Lib.parseUintM]
    rw [if_pos ⟨h1, h2⟩, if_neg (by omega), if_neg (by omega)]
  | x :: l, acc, u, h, h1, h2, h3, h4 => by
    simp only [Lib.parseUintM] at h
    simp only [List.cons_append, Lib.parseUintM]
    split at h
    · rename_i hx
      rw [if_pos hx]
      split at h
      · cases h
      · rename_i hr
        rw [if_neg hr]
        split at h
        · cases h
        · rename_i hr2
          rw [if_neg hr2]
          exact parse_snoc M c l _ u h h1 h2 h3 h4
    · cases h

theorem parse_digits (M : Nat) : ∀ (k u : Nat), u < 10 ^ k → u ≤ M → u < 1844674407370955162 → Lib.parseUintM M 0 (Lib.decDigits u) = .ok u
  | 0, u, h, hM, hb => by
    have : u = 0 := by simpa using h
    subst this
    rw [Lib.decDigits_one (by omega)]
    simp [Lib.parseUintM]
  | k + 1, u, h, hM, hb => by
    by_cases h10 : u < 10
    · rw [Lib.decDigits_one h10]
      have hd := digit_nat u h10
      simp only [Lib.parseUintM]
      rw [hd, if_pos ⟨by omega, by omega⟩, if_neg (by omega), if_neg (by omega)]
      congr 1
      omega
    · rw [digits_rec u h10]
      have hd := digit_nat (u % 10) (Nat.mod_lt _ (by omega))
      have ih := parse_digits M k (u / 10) (by rw [Nat.pow_succ] at h; omega) (by omega) (by omega)
      rw [parse_snoc M _ _ 0 (u / 10) ih (by omega) (by omega) (by omega) (by omega), hd]
      congr 1
      omega

/-- Each byte of a numeral is a digit. -/
theorem digits_all : ∀ (k u : Nat), u < 10 ^ k → ∀ c ∈ Lib.decDigits u, 48 ≤ c.toNat ∧ c.toNat ≤ 57
  | 0, u, h, c, hc => by
    have : u = 0 := by simpa using h
    subst this
    rw [Lib.decDigits_one (by omega)] at hc
    simp at hc
    subst hc
    decide
  | k + 1, u, h, c, hc => by
    by_cases h10 : u < 10
    · rw [Lib.decDigits_one h10] at hc
      simp only [List.mem_singleton] at hc
      subst hc
      rw [digit_nat u h10]
      omega
    · rw [digits_rec u h10] at hc
      rcases List.mem_append.1 hc with hc | hc
      · exact digits_all k (u / 10) (by rw [Nat.pow_succ] at h; omega) c hc
      · simp only [List.mem_singleton] at hc
        subst hc
        rw [digit_nat (u % 10) (Nat.mod_lt _ (by omega))]
        omega

/-- The first byte of a numeral of a number that is not 0 is not '0'. -/
theorem digits_head : ∀ (k u : Nat), u < 10 ^ k → 1 ≤ u → ∃ c r, Lib.decDigits u = c :: r ∧ c.toNat ≠ 48
  | 0, u, h, h1 => by
    have : u = 0 := by simpa using h
    omega
  | k + 1, u, h, h1 => by
    by_cases h10 : u < 10
    · refine ⟨_, _, Lib.decDigits_one h10, ?_⟩
      rw [digit_nat u h10]
      omega
    · obtain ⟨c, r, hc, hn⟩ := digits_head k (u / 10) (by rw [Nat.pow_succ] at h; omega) (by omega)
      exact ⟨c, r ++ [UInt8.ofNat (48 + u % 10)], by rw [digits_rec u h10, hc]; rfl, hn⟩

theorem digits_len_ge (k u : Nat) (h : 10 ^ k ≤ u) : k < (Lib.decDigits u).length := by
  induction k generalizing u with
  | zero =>
    rw [Lib.decDigits]
    split <;> simp
  | succ k ih =>
    have h10 : ¬ u < 10 := by
      have : 10 ^ 1 ≤ 10 ^ (k + 1) := Nat.pow_le_pow_right (by omega) (by omega)
      omega
    rw [digits_rec u h10, List.length_append]
    have := ih (u / 10) (by rw [Nat.pow_succ] at h; omega)
    simp
    omega

theorem digits_len_le (k u : Nat) (h : u < 10 ^ (k + 1)) : (Lib.decDigits u).length ≤ k + 1 := by
  induction k generalizing u with
  | zero => rw [Lib.decDigits_one (by omega)]; simp
  | succ k ih =>
    by_cases h10 : u < 10
    · rw [Lib.decDigits_one h10]; simp
    · rw [digits_rec u h10, List.length_append]
      have := ih (u / 10) (by rw [Nat.pow_succ] at h; omega)
      simp
      omega

/-- THE LAW: a numeral of at most five digits, read again, gives its number. -/
theorem parse_numeral (u : Nat) (h1 : 1 ≤ u) (h : u < 100000) : Lib.parseIntB 64 (Lib.decDigits u) = .ok (u : Int) := by
  obtain ⟨c, r, hc, hn⟩ := digits_head 5 u (by omega) h1
  have hd := digits_all 5 u (by omega) c (by rw [hc]; exact List.mem_cons_self ..)
  have hp := parse_digits (2 ^ 64 - 1) 5 u (by omega) (by omega) (by omega)
  rw [hc] at hp
  rw [hc]
  unfold Lib.parseIntB
  simp only
  rw [if_neg (by omega)]
  have : Lib.parseUintB 64 (c :: r) = .ok u := by
    unfold Lib.parseUintB
    rw [if_neg (by simp)]
    exact hp
  rw [this]
  simp only
  rw [if_neg (by omega), if_neg (by omega), if_neg (by omega)]
end Go.Proofs.Qxb6606386aDoor
