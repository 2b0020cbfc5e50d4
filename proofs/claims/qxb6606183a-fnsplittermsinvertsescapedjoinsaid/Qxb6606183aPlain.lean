/-
  THE PLAIN LAW of splitting at commas: no Go in sight.
-/
import Derived.Lib.Strings
namespace Go.Proofs.Qxb6606183a

/-- Split at each comma that is not escaped; e: the next byte is escaped; cur: what the current term holds so far. -/
def spF : Bool → List UInt8 → List UInt8 → List (List UInt8)
  | _, cur, [] => [cur]
  | e, cur, c :: r => if c = 44 ∧ e = false then cur :: spF false [] r else spF ((c == 92) && !e) (cur ++ [c]) r

def split (l : List UInt8) : List (List UInt8) := spF false [] l

theorem spF_comma (cur r : List UInt8) : spF false cur (44 :: r) = cur :: spF false [] r := by simp [spF]
theorem spF_other (cur r : List UInt8) (c : UInt8) (h1 : c ≠ 44) (h2 : c ≠ 92) : spF false cur (c :: r) = spF false (cur ++ [c]) r := by
  have : (c == 92) = false := by simp [h2]
  simp [spF, h1, this]
theorem spF_slash (cur r : List UInt8) (c : UInt8) : spF false cur (92 :: c :: r) = spF false (cur ++ [92, c]) r := by
  simp [spF]
theorem spF_last (cur : List UInt8) : spF false cur [92] = [cur ++ [92]] := by simp [spF]

/-- One byte, whatever it is, in the model's way: e says whether an odd run of backslashes stands ahead. -/
theorem spF_cut (cur r : List UInt8) : spF false cur (44 :: r) = cur :: spF false [] r := spF_comma cur r
theorem spF_keep (e : Bool) (cur r : List UInt8) (c : UInt8) (h : ¬ (c = 44 ∧ e = false)) : spF e cur (c :: r) = spF ((c == 92) && !e) (cur ++ [c]) r := by
  simp only [spF, if_neg h]

/-- The bytes of a term, escaped. -/
def escL : List UInt8 → List UInt8
  | [] => []
  | c :: r => if c = 92 ∨ c = 44 then 92 :: c :: escL r else c :: escL r

theorem spF_esc : ∀ (t cur r : List UInt8), spF false cur (escL t ++ 44 :: r) = (cur ++ escL t) :: spF false [] r
  | [], cur, r => by simp [escL, spF_comma]
  | c :: t, cur, r => by
    by_cases h : c = 92 ∨ c = 44
    · simp only [escL, if_pos h, List.cons_append]
      rw [spF_slash, spF_esc t]
      simp
    · simp only [escL, if_neg h, List.cons_append]
      rw [spF_other _ _ _ (fun e => h (.inr e)) (fun e => h (.inl e)), spF_esc t]
      simp

theorem spF_esc_end : ∀ (t cur : List UInt8), spF false cur (escL t) = [cur ++ escL t]
  | [], cur => by simp [escL, spF]
  | c :: t, cur => by
    by_cases h : c = 92 ∨ c = 44
    · simp only [escL, if_pos h]
      rw [spF_slash, spF_esc_end t]
      simp
    · simp only [escL, if_neg h]
      rw [spF_other _ _ _ (fun e => h (.inr e)) (fun e => h (.inl e)), spF_esc_end t]
      simp

/-- The terms, escaped and joined by commas. -/
def joinL : List (List UInt8) → List UInt8
  | [] => []
  | [t] => escL t
  | t :: ts => escL t ++ 44 :: joinL ts

theorem split_join : ∀ (ts : List (List UInt8)), ts ≠ [] → split (joinL ts) = ts.map escL
  | [], h => absurd rfl h
  | [t], _ => by
    show spF false [] (escL t) = _
    rw [spF_esc_end]
    simp
  | t :: u :: ts, _ => by
    show spF false [] (escL t ++ 44 :: joinL (u :: ts)) = _
    rw [spF_esc]
    have := split_join (u :: ts) (by simp)
    unfold split at this
    rw [this]
    simp

theorem length_spF : ∀ (l : List UInt8) (e : Bool) (cur : List UInt8), (spF e cur l).length ≤ l.length + 1
  | [], _, _ => by simp [spF]
  | c :: r, e, cur => by
    unfold spF
    split
    · have := length_spF r false []
      simp
      exact this
    · have := length_spF r ((c == 92) && !e) (cur ++ [c])
      simp
      omega

/-- As byte strings. -/
def toL (b : ByteArray) : List UInt8 := b.data.toList
theorem toL_inj {a b : ByteArray} (h : toL a = toL b) : a = b := by
  unfold toL at h
  cases a
  cases b
  simp at h
  simp [h]
theorem map_toL_inj : ∀ {a b : List ByteArray}, a.map toL = b.map toL → a = b
  | [], [], _ => rfl
  | [], _ :: _, h => by simp at h
  | _ :: _, [], h => by simp at h
  | x :: a, y :: b, h => by
    simp only [List.map_cons, List.cons.injEq] at h
    rw [toL_inj h.1, map_toL_inj h.2]

/-- What both functions answer. -/
def terms (s : ByteArray) : List ByteArray := (split (toL s)).map fun l => ⟨l.toArray⟩
theorem terms_toL (s : ByteArray) : (terms s).map toL = split (toL s) := by
  unfold terms
  rw [List.map_map]
  have : (toL ∘ fun l : List UInt8 => (⟨l.toArray⟩ : ByteArray)) = id := by
    funext l
    simp [toL]
  rw [this, List.map_id]
theorem eq_terms {s : ByteArray} {T : List ByteArray} (h : T.map toL = split (toL s)) : T = terms s := map_toL_inj (h.trans (terms_toL s).symm)

theorem toL_extract (s : ByteArray) (a b : Nat) : toL (s.extract a b) = ((toL s).drop a).take (b - a) := Lib.extract_data s a b
theorem toL_length (s : ByteArray) : (toL s).length = s.size := by simp [toL]

theorem drop_cons (s : ByteArray) (i : Nat) (h : i < s.size) : (toL s).drop i = s[i] :: (toL s).drop (i + 1) := by
  rw [List.drop_eq_getElem_cons (by rw [toL_length]; exact h)]
  rfl

/-- One byte more in the current term. -/
theorem cut_snoc (s : ByteArray) (a i : Nat) (ha : a ≤ i) (h : i < s.size) : toL (s.extract a (i + 1)) = toL (s.extract a i) ++ [s[i]] := by
  rw [toL_extract, toL_extract, show i + 1 - a = (i - a) + 1 by omega, List.take_add_one, List.getElem?_drop, show a + (i - a) = i by omega, List.getElem?_eq_getElem (by rw [toL_length]; exact h)]
  rfl
end Go.Proofs.Qxb6606183a
