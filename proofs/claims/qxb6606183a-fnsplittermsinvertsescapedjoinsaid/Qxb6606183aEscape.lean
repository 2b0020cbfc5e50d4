/-
  THE WALK of zzSelB1EscapeTerm.
-/
import Derived.Test.Qxb6606183aSplit
import Derived.Laws.IdiomStrings
import Derived.Laws.BytesArg
namespace Go.Proofs.Qxb6606183a
open Go.RowKit

theorem Try.info5 : (Try.prog.info? 5).map (fun i => (i.zero, i.size, i.bytes)) = some (some (.int .u8 0), 1, 1) := by kernel_rfl

def cellsB (l : List UInt8) : List Value := l.map fun b => Value.int .u8 b.toNat
theorem cellsB_append (l r : List UInt8) : cellsB (l ++ r) = cellsB l ++ cellsB r := by simp [cellsB]
theorem cellsB_length (l : List UInt8) : (cellsB l).length = l.length := by simp [cellsB]

/-- A list of bytes in new memory. -/
abbrev HoldsB (w : World) (base : Nat) (v : Value) (l : List UInt8) : Prop := w.ownsRow base 5 1 v l.length (cellsB l)

/-- 'string(b)'. -/
theorem HoldsB.conv {w : World} {base : Nat} {v : Value} {l : List UInt8} (h : HoldsB w base v l) : (convert 28 9 v).run Try.prog w = .ok (.string ⟨l.toArray⟩) w := by
  obtain ⟨_, h1⟩ := h
  rcases h1 with ⟨rfl, hl⟩ | ⟨g, cap, cur, rfl, hg, hh, hc1, hc2, hc3, hc4⟩
  · rw [run_convert_bytes_nil (P := Try.prog) w 28 5 Try.underlying28 Try.underlying5 0 0 9 Try.underlying9]
    have : l = [] := List.length_eq_zero_iff.1 hl
    rw [this]
    rfl
  · refine run_convert_bytes_back (P := Try.prog) w 28 9 5 ⟨g, 0, none⟩ cap l Try.underlying28 Try.underlying5 Try.underlying9 (fun j hj => ?_)
    have e : (⟨g, 0, none⟩ : Addr).add j = ⟨g, j, none⟩ := by
      unfold Addr.add
      by_cases h0 : j = 0
      · subst h0; rfl
      · rw [if_neg h0]; simp
    rw [e]
    have hcell : w.cell? ⟨g, j, none⟩ = cur[j]? := by simp [World.cell?, hh]
    rw [hcell]
    have h3 : cur.toList[j]? = (cellsB l)[j]? := by
      rw [← hc4, List.getElem?_take, if_pos (by omega)]
    rw [Array.getElem?_toList] at h3
    rw [h3]
    simp [cellsB, hj]

theorem one_byte (c : Int) : ∀ u ∈ [Value.int .u8 c], u.oneCell' = true := by
  intro u hu
  simp at hu
  subst hu
  rfl

/-- Behind an append of one byte. -/
theorem HoldsB.push {w wr w1 : World} {B : Nat} {v v' : Value} {l : List UInt8} {c : UInt8} {o : Obj} (hown : HoldsB wr B v l) (hbel : Below w.heap.size w wr) (hB : w.heap.size ≤ B) (hB2 : B ≤ wr.heap.size)
    (hown' : w1.ownsRow B 5 1 v' (l.length + 1) (cellsB l ++ [.int .u8 (c.toNat : Int)])) (hg : (wr.alloc o).grownBy w1 v.ownBlock) : HoldsB w1 B v' (l ++ [c]) ∧ Below w.heap.size w w1 ∧ Below B wr w1 := by
  have hb1 : Below B wr w1 := ((Below.refl B wr).alloc hB2 o).grown hg (by simp; omega) (fun j hj => (hown.lt j hj).1)
  refine ⟨by unfold HoldsB; rw [cellsB_append]; simpa [cellsB] using hown', hbel.trans (hb1.mono hB), hb1⟩

theorem escL_append : ∀ (l r : List UInt8), escL (l ++ r) = escL l ++ escL r
  | [], r => rfl
  | c :: l, r => by
    have ih := escL_append l r
    by_cases h : c = 92 ∨ c = 44
    · simp [escL, h, ih]
    · simp [escL, h, ih]
theorem escL_hit {c : UInt8} (h : c = 92 ∨ c = 44) (l : List UInt8) : escL (l ++ [c]) = escL l ++ [92] ++ [c] := by
  rw [escL_append]; simp [escL, h]
theorem escL_plain {c : UInt8} (h : ¬ (c = 92 ∨ c = 44)) (l : List UInt8) : escL (l ++ [c]) = escL l ++ [c] := by
  rw [escL_append]; simp [escL, h]
theorem escL_length : ∀ l : List UInt8, (escL l).length ≤ 2 * l.length
  | [] => Nat.le_refl _
  | c :: l => by
    have := escL_length l
    unfold escL
    split
    · simp; omega
    · simp; omega

/-- The term, escaped. -/
def escB (t : ByteArray) : ByteArray := ⟨(escL (toL t)).toArray⟩
theorem toL_escB (t : ByteArray) : toL (escB t) = escL (toL t) := by simp [toL, escB]

theorem take_next (t : ByteArray) (k : Nat) (h : k < t.size) : (toL t).take (k + 1) = (toL t).take k ++ [t[k]] := by
  rw [List.take_add_one, List.getElem?_eq_getElem (by rw [toL_length]; exact h)]
  rfl

set_option maxHeartbeats 1000000 in
theorem escape_walk (t : ByteArray) (w : World) (ht : t.size ≤ 1048576) :
    Calls Try.prog 13 #[.string t] w fun e w' => e = .returned (.string (escB t)) ∧ Below w.heap.size w w' := by
  obtain ⟨i0, hi, hz0, hz1, hz2⟩ := info_parts Try.info5
  go_enter Try.func13, Try.ntmps13
  go_wp2_with (at_make; refine wpList_make_own _ rfl _ _ 28 rfl w.heap.size 5 i0 (.int .u8 0) 1 Try.underlying28 hi hz0 hz1 _ _ _ (2 * t.size) rfl rfl (by omega) ?b1 ?b2 ?b3 ?_)
  case b1 => rw [hz2]; omega
  case b2 => unfold maxLen; omega
  case b3 => exact Nat.le_refl _
  intro w1 hown hgrow
  have ho : HoldsB w1 w.heap.size (.slice (some ⟨w.heap.size, 0, none⟩) 0 (2 * t.size)) (escL ((toL t).take 0)) := hown
  have hb : Below w.heap.size w w1 := (Below.refl _ _).grown hgrow (Nat.le_refl _) (fun _ h => by cases h)
  clear hown hgrow
  go_wp2
  go_loopw [3, 4] (fun v i wr => ∃ k : Nat, k ≤ t.size ∧ i = .int .i64 k ∧ HoldsB wr w.heap.size v (escL ((toL t).take k)) ∧ Below w.heap.size w wr) (fun _ i _ => t.size - (intOf i).toNat)
  case atStart => exact ⟨0, Nat.zero_le _, rfl, ho, hb⟩
  case round =>
    obtain ⟨k, hk, rfl, hown, hbel⟩ := hrel
    clear ho hb
    have hlen : (escL ((toL t).take k)).length ≤ 2 * k := by
      have h1 := escL_length ((toL t).take k)
      have h2 : ((toL t).take k).length ≤ k := List.length_take_le _ _
      omega
    by_cases hlt : k < t.size
    · have hnx := take_next t k hlt
      generalize hE : escL ((toL t).take k) = E at hown hlen
      by_cases hc : t[k] = 92 ∨ t[k] = 44
      · have HN : Hid (escL ((toL t).take (k + 1)) = E ++ [92] ++ [t[k]]) := by show escL _ = _; rw [hnx, escL_hit hc, hE]
        clear hnx hE
        rcases hc with hc | hc
        · have h1 : ((t[k].toNat : Int) == 92) = true := by rw [hc]; rfl
          clear hc
          go_wp2_with (at_builtin; refine wpList_append_own _ rfl _ _ 28 rfl w.heap.size 5 i0 (.int .u8 0) 1 1 Try.underlying28 hi hz0 hz1 hz2 rfl (by decide) _ _ _ rfl (hown.alloc _) ⟨wr.heap.size, 0, none⟩ 1 1 [.int .u8 92] rfl rfl (cell_one_new _ _ _) (one_byte _) (by unfold maxLen; omega) (by omega) (by have := hbel.size; simp; omega) ?_)
          intro v1 w2 hown1 hgrow1 _
          have HP := HoldsB.push (c := 92) hown hbel (Nat.le_refl _) hbel.size hown1 hgrow1
          have hown2 : HoldsB w2 w.heap.size v1 (E ++ [92]) := HP.1
          have hbel2 : Below w.heap.size w w2 := HP.2.1
          have hlen2 : (E ++ [92]).length ≤ 2 * k + 1 := by simp; omega
          clear hown1 hgrow1 hown hbel HP hlen
          generalize E ++ [92] = E2 at hown2 hlen2 HN
          go_wp2_with (at_builtin; refine wpList_append_own _ rfl _ _ 28 rfl w.heap.size 5 i0 (.int .u8 0) 1 1 Try.underlying28 hi hz0 hz1 hz2 rfl (by decide) _ _ _ rfl (hown2.alloc _) ⟨w2.heap.size, 0, none⟩ 1 1 [.int .u8 (t[k].toNat : Int)] rfl rfl (cell_one_new _ _ _) (one_byte _) (by unfold maxLen; omega) (by omega) (by have := hbel2.size; simp; omega) ?_)
          intro v' w3 hown' hgrow _
          have HP := HoldsB.push hown2 hbel2 (Nat.le_refl _) hbel2.size hown' hgrow
          have HP1 : Hid (HoldsB w3 w.heap.size v' (E2 ++ [t[k]])) := HP.1
          have HP2 : Hid (Below w.heap.size w w3) := HP.2.1
          clear hown' hgrow hown2 hbel2 HP
          go_wp2
          go_roundw
          case rel => exact ⟨k + 1, by omega, by go_num, by rw [HN.out]; exact HP1.out, HP2.out⟩
          case measure => simp [intOf]; omega
        · have h1 : ((t[k].toNat : Int) == 92) = false := by rw [hc]; rfl
          have h2 : ((t[k].toNat : Int) == 44) = true := by rw [hc]; rfl
          clear hc
          go_wp2_with (at_builtin; refine wpList_append_own _ rfl _ _ 28 rfl w.heap.size 5 i0 (.int .u8 0) 1 1 Try.underlying28 hi hz0 hz1 hz2 rfl (by decide) _ _ _ rfl (hown.alloc _) ⟨wr.heap.size, 0, none⟩ 1 1 [.int .u8 92] rfl rfl (cell_one_new _ _ _) (one_byte _) (by unfold maxLen; omega) (by omega) (by have := hbel.size; simp; omega) ?_)
          intro v1 w2 hown1 hgrow1 _
          have HP := HoldsB.push (c := 92) hown hbel (Nat.le_refl _) hbel.size hown1 hgrow1
          have hown2 : HoldsB w2 w.heap.size v1 (E ++ [92]) := HP.1
          have hbel2 : Below w.heap.size w w2 := HP.2.1
          have hlen2 : (E ++ [92]).length ≤ 2 * k + 1 := by simp; omega
          clear hown1 hgrow1 hown hbel HP hlen
          generalize E ++ [92] = E2 at hown2 hlen2 HN
          go_wp2_with (at_builtin; refine wpList_append_own _ rfl _ _ 28 rfl w.heap.size 5 i0 (.int .u8 0) 1 1 Try.underlying28 hi hz0 hz1 hz2 rfl (by decide) _ _ _ rfl (hown2.alloc _) ⟨w2.heap.size, 0, none⟩ 1 1 [.int .u8 (t[k].toNat : Int)] rfl rfl (cell_one_new _ _ _) (one_byte _) (by unfold maxLen; omega) (by omega) (by have := hbel2.size; simp; omega) ?_)
          intro v' w3 hown' hgrow _
          have HP := HoldsB.push hown2 hbel2 (Nat.le_refl _) hbel2.size hown' hgrow
          have HP1 : Hid (HoldsB w3 w.heap.size v' (E2 ++ [t[k]])) := HP.1
          have HP2 : Hid (Below w.heap.size w w3) := HP.2.1
          clear hown' hgrow hown2 hbel2 HP
          go_wp2
          go_roundw
          case rel => exact ⟨k + 1, by omega, by go_num, by rw [HN.out]; exact HP1.out, HP2.out⟩
          case measure => simp [intOf]; omega
      · have HN : Hid (escL ((toL t).take (k + 1)) = E ++ [t[k]]) := by show escL _ = _; rw [hnx, escL_plain hc, hE]
        have h1 : ((t[k].toNat : Int) == 92) = false := beq_eq_false_iff_ne.2 (fun e => hc (.inl (is92 (by rw [e]; rfl))))
        have h2 : ((t[k].toNat : Int) == 44) = false := beq_eq_false_iff_ne.2 (fun e => hc (.inr (is44 (by rw [e]; rfl))))
        clear hnx hE hc
        go_wp2_with (at_builtin; refine wpList_append_own _ rfl _ _ 28 rfl w.heap.size 5 i0 (.int .u8 0) 1 1 Try.underlying28 hi hz0 hz1 hz2 rfl (by decide) _ _ _ rfl (hown.alloc _) ⟨wr.heap.size, 0, none⟩ 1 1 [.int .u8 (t[k].toNat : Int)] rfl rfl (cell_one_new _ _ _) (one_byte _) (by unfold maxLen; omega) (by omega) (by have := hbel.size; simp; omega) ?_)
        intro v' w2 hown' hgrow _
        have HP := HoldsB.push hown hbel (Nat.le_refl _) hbel.size hown' hgrow
        have HP1 : Hid (HoldsB w2 w.heap.size v' (E ++ [t[k]])) := HP.1
        have HP2 : Hid (Below w.heap.size w w2) := HP.2.1
        clear hown' hgrow hown hbel HP
        go_wp2
        go_roundw
        case rel => exact ⟨k + 1, by omega, by go_num, by rw [HN.out]; exact HP1.out, HP2.out⟩
        case measure => simp [intOf]; omega
    · have he : k = t.size := by omega
      subst he
      have hall : (toL t).take t.size = toL t := List.take_of_length_le (by rw [toL_length]; omega)
      rw [hall] at hown
      have hconv := hown.conv
      clear hown hall hlen
      go_wp2
      go_ret
      exact ⟨rfl, hbel⟩
end Go.Proofs.Qxb6606183a
