/-
  THE WALKS of splitTerms and ZZB1SplitTerms.
-/
import Derived.Test.Qxb6606183aChecked
import Derived.Test.Qxb6606183aMem
import Derived.Test.Qxb6606183aPlain
namespace Go.Proofs.Qxb6606183a
open Go.RowKit

theorem Try.info9 : (Try.prog.info? 9).map (fun i => (i.zero, i.size, i.bytes)) = some (some (.string ByteArray.empty), 1, 16) := by kernel_rfl

/-- A list of strings in new memory. -/
abbrev HoldsS (w : World) (base : Nat) (v : Value) (T : List ByteArray) : Prop := w.ownsRow base 9 1 v T.length (T.map Value.string)

/-- A list of strings, as memory shows it. -/
def Strs (w : World) (e : Ending) (T : List ByteArray) : Prop :=
  ∃ a cap, e = .returned (.slice a T.length cap) ∧ Shows w a T.length (fun i => .string (T.getD i ByteArray.empty))

theorem HoldsS.strs {w : World} {base : Nat} {v : Value} {T : List ByteArray} (h : HoldsS w base v T) : Strs w (.returned v) T := by
  obtain ⟨_, h1⟩ := h
  rcases h1 with ⟨rfl, hl⟩ | ⟨g, cap, cur, rfl, hg, hh, hc1, hc2, hc3, hc4⟩
  · refine ⟨none, 0, by rw [hl], ?_⟩
    rw [hl]
    exact Shows.zero
  · refine ⟨_, cap, rfl, fun i hi => ⟨_, rfl, (Array.getElem?_eq_some_iff.1 hh).1, ?_⟩⟩
    have e : (⟨g, 0, none⟩ : Addr).add i = ⟨g, i, none⟩ := by
      unfold Addr.add
      by_cases h0 : i = 0
      · subst h0; rfl
      · rw [if_neg h0]; simp
    rw [e]
    have hcell : w.cell? ⟨g, i, none⟩ = cur[i]? := by simp [World.cell?, hh]
    rw [hcell]
    have h3 : cur.toList[i]? = (T.map Value.string)[i]? := by
      rw [← hc4, List.getElem?_take, if_pos (by omega)]
    rw [Array.getElem?_toList] at h3
    rw [h3]
    simp [hi]

/-- What holds at the loop's head of splitTerms. -/
def InvS (s : ByteArray) (T : List ByteArray) (a i : Nat) : Prop :=
  (i ≤ s.size → a ≤ i ∧ T.map toL ++ spF false (toL (s.extract a i)) ((toL s).drop i) = split (toL s)) ∧ (i = s.size + 1 → a ≤ s.size ∧ T.map toL ++ [toL (s.extract a s.size)] = split (toL s))

theorem InvS.start (s : ByteArray) : InvS s [] 0 0 := by
  refine ⟨fun _ => ⟨Nat.le_refl _, ?_⟩, fun h => by omega⟩
  have : toL (s.extract 0 0) = [] := by rw [toL_extract]; simp
  rw [this]
  rfl

theorem InvS.comma {s : ByteArray} {T : List ByteArray} {a i : Nat} (h : InvS s T a i) (hi : i < s.size) (hc : s[i] = 44) : InvS s (T ++ [s.extract a i]) (i + 1) (i + 1) := by
  obtain ⟨h1, h2⟩ := h.1 (by omega)
  refine ⟨fun _ => ⟨Nat.le_refl _, ?_⟩, fun h => by omega⟩
  rw [← h2, drop_cons s i hi, hc, spF_comma]
  have : toL (s.extract (i + 1) (i + 1)) = [] := by rw [toL_extract]; simp
  rw [this]
  simp

theorem InvS.other {s : ByteArray} {T : List ByteArray} {a i : Nat} (h : InvS s T a i) (hi : i < s.size) (hc : s[i] ≠ 44) (hc2 : s[i] ≠ 92) : InvS s T a (i + 1) := by
  obtain ⟨h1, h2⟩ := h.1 (by omega)
  refine ⟨fun _ => ⟨by omega, ?_⟩, fun h => by omega⟩
  rw [← h2, drop_cons s i hi, spF_other _ _ _ hc hc2, cut_snoc s a i h1 hi]

theorem InvS.slash {s : ByteArray} {T : List ByteArray} {a i : Nat} (h : InvS s T a i) (hi : i < s.size) (hc : s[i] = 92) : InvS s T a (i + 1 + 1) := by
  obtain ⟨h1, h2⟩ := h.1 (by omega)
  by_cases hl : i + 1 < s.size
  · refine ⟨fun _ => ⟨by omega, ?_⟩, fun h => by omega⟩
    rw [← h2, drop_cons s i hi, drop_cons s (i + 1) hl, hc, spF_slash, cut_snoc s a (i + 1) (by omega) hl, cut_snoc s a i h1 hi, hc]
    simp
  · have he : s.size = i + 1 := by omega
    refine ⟨fun h => by omega, fun _ => ⟨by omega, ?_⟩⟩
    rw [← h2, drop_cons s i hi, hc]
    have hd : (toL s).drop (i + 1) = [] := List.drop_eq_nil_of_le (by rw [toL_length]; omega)
    rw [hd, spF_last, he, cut_snoc s a i h1 hi, hc]

theorem InvS.finish {s : ByteArray} {T : List ByteArray} {a i : Nat} (h : InvS s T a i) (hi : ¬ i < s.size) (hi2 : i ≤ s.size + 1) : a ≤ s.size ∧ T ++ [s.extract a s.size] = terms s := by
  have key : a ≤ s.size ∧ T.map toL ++ [toL (s.extract a s.size)] = split (toL s) := by
    by_cases e : i = s.size + 1
    · exact h.2 e
    · have e2 : i = s.size := by omega
      subst e2
      obtain ⟨h1, h2⟩ := h.1 (Nat.le_refl _)
      refine ⟨h1, ?_⟩
      rw [← h2]
      have hd : (toL s).drop s.size = [] := List.drop_eq_nil_of_le (by rw [toL_length]; omega)
      rw [hd]
      rfl
  exact ⟨key.1, eq_terms (by simpa using key.2)⟩

theorem InvS.le {s : ByteArray} {T : List ByteArray} {a i : Nat} (h : InvS s T a i) (hi2 : i ≤ s.size + 1) : a ≤ s.size ∧ (i ≤ s.size → a ≤ i) := by
  by_cases e : i ≤ s.size
  · have := (h.1 e).1
    exact ⟨by omega, fun _ => this⟩
  · exact ⟨(h.2 (by omega)).1, fun h => absurd h e⟩

theorem byte_eq {c : UInt8} {n : Nat} (hn : n < 256) (h : ((c.toNat : Int) == (n : Int)) = true) : c = UInt8.ofNat n := by
  have h1 : c.toNat = n := by have := beq_iff_eq.1 h; omega
  apply UInt8.toNat.inj
  rw [h1]
  simp
  omega
theorem byte_ne {c : UInt8} {n : Nat} (hn : n < 256) (h : ((c.toNat : Int) == (n : Int)) = false) : c ≠ UInt8.ofNat n := by
  intro e
  have h1 : c.toNat ≠ n := by have := beq_eq_false_iff_ne.1 h; omega
  apply h1
  rw [e]
  simp
  omega
theorem is92 {c : UInt8} (h : ((c.toNat : Int) == 92) = true) : c = 92 := byte_eq (n := 92) (by omega) h
theorem is44 {c : UInt8} (h : ((c.toNat : Int) == 44) = true) : c = 44 := byte_eq (n := 44) (by omega) h
theorem not92 {c : UInt8} (h : ((c.toNat : Int) == 92) = false) : c ≠ 92 := byte_ne (n := 92) (by omega) h
theorem not44 {c : UInt8} (h : ((c.toNat : Int) == 44) = false) : c ≠ 44 := byte_ne (n := 44) (by omega) h

/-- Behind an append of one string. -/
theorem HoldsS.push {w wr w1 : World} {v v' : Value} {T : List ByteArray} {x : ByteArray} {o : Obj} (hown : HoldsS wr w.heap.size v T) (hbel : Below w.heap.size w wr)
    (hown' : w1.ownsRow w.heap.size 9 1 v' (T.length + 1) (T.map Value.string ++ [.string x])) (hg : (wr.alloc o).grownBy w1 v.ownBlock) : HoldsS w1 w.heap.size v' (T ++ [x]) ∧ Below w.heap.size w w1 := by
  refine ⟨by unfold HoldsS; simpa using hown', (hbel.alloc hbel.size o).grown hg (by have := hbel.size; simp; omega) (fun j hj => (hown.lt j hj).1)⟩

set_option maxHeartbeats 1000000 in
theorem split_walk (s : ByteArray) (w : World) (hs : s.size ≤ 4194304) :
    Calls Try.prog 19 #[.string s] w fun e w' => Strs w' e (terms s) ∧ Below w.heap.size w w' := by
  obtain ⟨i0, hi, hz0, hz1, hz2⟩ := info_parts Try.info9
  go_enter Try.func19, Try.ntmps19
  go_wp2
  go_loopw [3, 4, 5] (fun v st i wr => ∃ (T : List ByteArray) (a k : Nat), k ≤ s.size + 1 ∧ i = .int .i64 k ∧ st = .int .i64 a ∧ T.length ≤ k ∧ InvS s T a k ∧ HoldsS wr w.heap.size v T ∧ Below w.heap.size w wr) (fun _ _ i _ => s.size + 2 - (intOf i).toNat)
  case atStart => exact ⟨[], 0, 0, Nat.zero_le _, rfl, rfl, Nat.le_refl _, InvS.start s, World.ownsRow_nil _ _ _ _, Below.refl _ _⟩
  case round =>
    obtain ⟨T, a, k, hk, rfl, rfl, hT, hinv, hown, hbel⟩ := hrel
    have hle := hinv.le hk
    by_cases hlt : k < s.size
    · have hak := hle.2 (by omega)
      go_wp2_with (at_builtin; refine wpList_append_own _ rfl _ _ 24 rfl w.heap.size 9 i0 (.string ByteArray.empty) 1 16 Try.underlying24 hi hz0 hz1 hz2 rfl (by decide) _ _ _ rfl (hown.alloc _) ⟨wr.heap.size, 0, none⟩ 1 1 [.string (s.extract a k)] rfl rfl ?c1 ?c2 ?c3 ?c4 ?c5 ?_)
      · have hc : ((s[k].toNat : Int) == 92) = true := by assumption
        go_roundw
        case rel => exact ⟨T, a, k + 1 + 1, by omega, by go_num, rfl, by omega, hinv.slash hlt (is92 hc), hown, hbel⟩
        case measure => simp [intOf]; omega
      case c1 =>
        intro j u hj
        match j, hj with
        | 0, hj => simp at hj; subst hj; simp [Addr.add]
      case c2 => intro u hu; simp at hu; subst hu; rfl
      case c3 => unfold maxLen; omega
      case c4 => omega
      case c5 => have := hbel.size; simp; omega
      · have hc : ((s[k].toNat : Int) == 44) = true := by assumption
        intro v' w1 hown' hgrow _
        have HP : Hid (HoldsS w1 w.heap.size v' (T ++ [s.extract a k]) ∧ Below w.heap.size w w1) := HoldsS.push hown hbel hown' hgrow
        have HI : Hid (InvS s (T ++ [s.extract a k]) (k + 1) (k + 1)) := hinv.comma hlt (is44 hc)
        clear hown' hgrow hown hbel hinv
        go_wp2
        go_roundw
        case rel => exact ⟨T ++ [s.extract a k], k + 1, k + 1, by omega, by go_num, by go_num, by simp; omega, HI.out, HP.out.1, HP.out.2⟩
        case measure => simp [intOf]; omega
      · have hc : ((s[k].toNat : Int) == 92) = false := by assumption
        have hc2 : ((s[k].toNat : Int) == 44) = false := by assumption
        go_roundw
        case rel => exact ⟨T, a, k + 1, by omega, by go_num, rfl, by omega, hinv.other hlt (not44 hc2) (not92 hc), hown, hbel⟩
        case measure => simp [intOf]; omega
    · have has := hle.1
      have HF : Hid (T ++ [s.extract a s.size] = terms s) := (hinv.finish hlt hk).2
      clear hinv hle
      go_wp2_with (at_builtin; refine wpList_append_own _ rfl _ _ 24 rfl w.heap.size 9 i0 (.string ByteArray.empty) 1 16 Try.underlying24 hi hz0 hz1 hz2 rfl (by decide) _ _ _ rfl (hown.alloc _) ⟨wr.heap.size, 0, none⟩ 1 1 [.string (s.extract a s.size)] rfl rfl ?e1 ?e2 ?e3 ?e4 ?e5 ?_)
      case e1 =>
        intro j u hj
        match j, hj with
        | 0, hj => simp at hj; subst hj; simp [Addr.add]
      case e2 => intro u hu; simp at hu; subst hu; rfl
      case e3 => unfold maxLen; omega
      case e4 => omega
      case e5 => have := hbel.size; simp; omega
      intro v' w1 hown' hgrow _
      have HP : Hid (HoldsS w1 w.heap.size v' (T ++ [s.extract a s.size]) ∧ Below w.heap.size w w1) := HoldsS.push hown hbel hown' hgrow
      clear hown' hgrow hown hbel
      go_wp2
      go_ret
      exact ⟨by rw [← HF.out]; exact HP.out.1.strs, HP.out.2⟩

theorem zzSplit (s : ByteArray) (w : World) (hs : s.size ≤ 4194304) :
    Calls Try.prog 9 #[.string s] w fun e w' => Strs w' e (terms s) ∧ Below w.heap.size w w' := by
  go_enter Try.func9, Try.ntmps9
  go_wp2_with fail
  refine (split_walk s w hs).mono ?_
  rintro e w' ⟨⟨a, cap, rfl, hsh⟩, hb⟩
  go_wp2
  go_ret
  exact ⟨⟨a, cap, rfl, hsh⟩, hb⟩
end Go.Proofs.Qxb6606183a
