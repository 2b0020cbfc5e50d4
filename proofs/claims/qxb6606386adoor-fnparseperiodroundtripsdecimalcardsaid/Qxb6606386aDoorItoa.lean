/-
  THE WALK of zzItoa64.
-/
import Derived.Test.Qxb6606386aDoorChecked
import Derived.Test.Qxb6606386aDoorMem
import Derived.Lib.ItoaLen
import Derived.Laws.IdiomStrings
import Derived.Laws.BytesArg
namespace Go.Proofs.Qxb6606386aDoor
open Go.RowKit

/-- What the buffer shows: the bytes l at its end, zeros ahead. -/
def bufd (l : List UInt8) : Nat → Value := fun j => if 20 - l.length ≤ j then .int .u8 ((l.getD (j - (20 - l.length)) 0).toNat : Int) else .int .u8 0

theorem bufd_push {w : World} {g : Nat} {l : List UInt8} {c : UInt8} (h : Own w g 20 (bufd l)) (hl : l.length < 20) :
    Own (w.setCell ⟨g, 19 - l.length, none⟩ (.int .u8 (c.toNat : Int))) g 20 (bufd (c :: l)) := by
  refine (h.set (19 - l.length) (by omega) _).congr (fun j hj => ?_)
  unfold bufd
  by_cases e : j = 19 - l.length
  · subst e
    rw [if_pos rfl, if_pos (by simp)]
    simp only [List.length_cons]
    rw [show 19 - l.length - (20 - (l.length + 1)) = 0 by omega]
    rfl
  · rw [if_neg e]
    by_cases h2 : 20 - l.length ≤ j
    · rw [if_pos h2, if_pos (by simp; omega)]
      simp only [List.length_cons]
      rw [show j - (20 - (l.length + 1)) = (j - (20 - l.length)) + 1 by omega]
      simp
    · rw [if_neg h2, if_neg (by simp; omega)]

theorem digits_step (u : Nat) (h : ¬ u < 10) : Lib.decDigits u = Lib.decDigits (u / 10) ++ [UInt8.ofNat (48 + u % 10)] := by
  rw [Lib.decDigits, dif_neg h]

theorem digits_pos (u : Nat) : 0 < (Lib.decDigits u).length := by
  rw [Lib.decDigits]
  split <;> simp

theorem byte_of (v : Nat) : ((UInt8.ofNat (48 + v % 10)).toNat : Int) = 48 + (v : Int) % 10 := by
  simp
  omega

theorem own_zeros (w : World) (t : TypeId) : Own (w.alloc (.cells (Array.replicate 20 (.int .u8 0)) t)) w.heap.size 20 (bufd []) := by
  refine ⟨by simp, fun i hi => ?_⟩
  have e : bufd [] i = .int .u8 0 := by unfold bufd; rw [if_neg (by simp; omega)]
  rw [e]
  have hh : (w.alloc (.cells (Array.replicate 20 (.int .u8 0)) t)).heap[w.heap.size]? = some (.cells (Array.replicate 20 (.int .u8 0)) t) := heap_alloc_new w _
  exact ⟨by simp only [World.cell?, hh]; rw [Array.getElem?_replicate, if_pos hi]; rfl, by simp only [World.frozen?, hh]; simp⟩

theorem own_new (w : World) : Own (w.alloc (.cells #[.int .u8 0, .int .u8 0, .int .u8 0, .int .u8 0, .int .u8 0, .int .u8 0, .int .u8 0, .int .u8 0, .int .u8 0, .int .u8 0, .int .u8 0, .int .u8 0, .int .u8 0, .int .u8 0, .int .u8 0, .int .u8 0, .int .u8 0, .int .u8 0, .int .u8 0, .int .u8 0] 32)) w.heap.size 20 (bufd []) := own_zeros w 32

theorem slice_buf (W : World) (g m : Nat) (hm : m < 20) :
    (Instr.sliceAt 32 (.pointer (some ⟨g, 0, none⟩)) (some (.int .i64 (m : Int))) none none).run Tryd.prog W = .ok (.slice (some ⟨g, m, none⟩) (20 - m) (20 - m)) W := by
  have e1 : Tryd.prog.arrayLen 32 = 20 := by kernel_rfl
  have e2 : Tryd.prog.elem 32 = 5 := by kernel_rfl
  have hu : Tryd.prog.underlying 32 = some (.array (Tryd.prog.arrayLen 32) (Tryd.prog.elem 32)) := by kernel_rfl
  rw [run_sliceAt_array_l (P := Tryd.prog) W 32 ⟨g, 0, none⟩ hu .i64 (m : Int) (by omega) (by rw [e1]; omega), e1, e2, Tryd.sizeOf5]
  simp only [Result.andThen, slicedAt]
  rw [if_neg (by simp; omega)]
  have : (⟨g, 0, none⟩ : Addr).add ((m : Int).toNat * 1) = ⟨g, m, none⟩ := by
    unfold Addr.add
    by_cases h0 : m = 0
    · subst h0; rfl
    · rw [if_neg (by simp; omega)]; simp
  rw [this]
  simp

/-- 'string(buf[i:])'. -/
theorem conv_buf {W : World} {g m : Nat} {l : List UInt8} (h : Own W g 20 (bufd l)) (hm : l.length + m = 20) (c : Nat) :
    (convert 30 9 (.slice (some ⟨g, m, none⟩) (20 - m) c)).run Tryd.prog W = .ok (.string ⟨l.toArray⟩) W := by
  have el : 20 - m = l.length := by omega
  rw [el]
  refine run_convert_bytes_back (P := Tryd.prog) W 30 9 5 ⟨g, m, none⟩ c l Tryd.underlying30 Tryd.underlying5 Tryd.underlying9 (fun j hj => ?_)
  have e : (⟨g, m, none⟩ : Addr).add j = ⟨g, m + j, none⟩ := by
    unfold Addr.add
    by_cases h0 : j = 0
    · subst h0; rfl
    · rw [if_neg h0]
  rw [e, (h.2 (m + j) (by omega)).1]
  unfold bufd
  rw [if_pos (by omega), show m + j - (20 - l.length) = j by omega]
  simp [hj]

set_option maxRecDepth 100000 in
set_option maxHeartbeats 1000000 in
theorem itoa_pos (u : Nat) (hu : u ≤ 9223372036854775807) (w : World) :
    Calls Tryd.prog 7 #[.int .i64 (u : Int)] w fun e w' => e = .returned (.string ⟨(Lib.decDigits u).toArray⟩) ∧ Below w.heap.size w w' := by
  have hneg : ¬ ((u : Int) < 0) := by omega
  have hlen : (Lib.decDigits u).length ≤ 20 := by rw [Lib.decDigits_length]; exact Lib.nDigits_le20 u (by omega)
  go_enter Tryd.func7, Tryd.ntmps7
  go_wp2
  have HO : Hid (Own (w.alloc (.cells #[.int .u8 0, .int .u8 0, .int .u8 0, .int .u8 0, .int .u8 0, .int .u8 0, .int .u8 0, .int .u8 0, .int .u8 0, .int .u8 0, .int .u8 0, .int .u8 0, .int .u8 0, .int .u8 0, .int .u8 0, .int .u8 0, .int .u8 0, .int .u8 0, .int .u8 0, .int .u8 0] 32)) w.heap.size 20 (bufd [])) := own_new w
  have HB : Hid (Below w.heap.size w (w.alloc (.cells #[.int .u8 0, .int .u8 0, .int .u8 0, .int .u8 0, .int .u8 0, .int .u8 0, .int .u8 0, .int .u8 0, .int .u8 0, .int .u8 0, .int .u8 0, .int .u8 0, .int .u8 0, .int .u8 0, .int .u8 0, .int .u8 0, .int .u8 0, .int .u8 0, .int .u8 0, .int .u8 0] 32))) := (Below.refl _ _).alloc (Nat.le_refl _) _
  go_loopw [4, 6] (fun x i wr => ∃ (v m : Nat) (l : List UInt8), v ≤ 9223372036854775808 ∧ l.length + m = 20 ∧ x = .int .u64 v ∧ i = .int .i64 m ∧ Lib.decDigits u = Lib.decDigits v ++ l ∧ Own wr w.heap.size 20 (bufd l) ∧ Below w.heap.size w wr) (fun x _ _ => (intOf x).toNat)
  case atStart => exact ⟨u, 20, [], by omega, rfl, rfl, rfl, by simp, HO.out, HB.out⟩
  case round =>
    obtain ⟨v, m, l, hv, hlm, rfl, rfl, hdg, hown, hbel⟩ := hrel
    clear HO HB
    have hm0 : 0 < m := by
      have h1 := congrArg List.length hdg
      have h2 := digits_pos v
      simp only [List.length_append] at h1
      omega
    obtain ⟨m', rfl⟩ : ∃ m', m = m' + 1 := ⟨m - 1, by omega⟩
    have hem : 19 - l.length = m' := by omega
    have hc1 := (hown.2 m' (by omega)).1
    have hc2 := (hown.2 m' (by omega)).2
    have hbz : bufd l m' = .int .u8 0 := by unfold bufd; rw [if_neg (by omega)]
    rw [hbz] at hc1
    have HP : Hid (Own (wr.setCell ⟨w.heap.size, m', none⟩ (.int .u8 ((UInt8.ofNat (48 + v % 10)).toNat : Int))) w.heap.size 20 (bufd (UInt8.ofNat (48 + v % 10) :: l))) := by
      have := bufd_push (c := UInt8.ofNat (48 + v % 10)) hown (by omega)
      rw [hem] at this
      exact this
    clear hown hbz hem
    have hby : ((UInt8.ofNat (48 + v % 10)).toNat : Int) = 48 + (v : Int) % 10 := byte_of v
    rw [hby] at HP
    have HB2 : Hid (Below w.heap.size w (wr.setCell ⟨w.heap.size, m', none⟩ (.int .u8 (48 + (v : Int) % 10)))) := hbel.setCell (Nat.le_refl _) _
    have HD : Hid (Lib.decDigits u = Lib.decDigits v ++ l) := hdg
    clear hdg hbel
    by_cases hv10 : v < 10
    · have hq : ((v : Int) / 10 == 0) = true := beq_iff_eq.2 (by omega)
      have hsl := slice_buf (wr.setCell ⟨w.heap.size, m', none⟩ (.int .u8 (48 + (v : Int) % 10))) w.heap.size m' (by omega)
      have hcv := conv_buf HP.out (m := m') (by simp; omega) (20 - m')
      have HL : Hid (UInt8.ofNat (48 + v % 10) :: l = Lib.decDigits u) := by
        show _ = _
        rw [HD.out, Lib.decDigits_one hv10, Nat.mod_eq_of_lt hv10]
        rfl
      rw [HL.out] at hcv
      clear hby
      go_wp2
      go_ret
      exact ⟨rfl, HB2.out⟩
    · have hq : ((v : Int) / 10 == 0) = false := beq_eq_false_iff_ne.2 (by omega)
      have HDN : Hid (Lib.decDigits u = Lib.decDigits (v / 10) ++ (UInt8.ofNat (48 + v % 10) :: l)) := by
        show _ = _
        rw [HD.out, digits_step v hv10]
        simp
      clear hby
      go_wp2
      go_roundw
      case rel => exact ⟨v / 10, m', UInt8.ofNat (48 + v % 10) :: l, by omega, by simp; omega, by go_num, rfl, HDN.out, HP.out, HB2.out⟩
      case measure => simp [intOf]; omega
set_option maxRecDepth 100000 in
set_option maxHeartbeats 1000000 in
theorem itoa_neg (u : Nat) (h1 : 1 ≤ u) (hu : u ≤ 9223372036854775808) (w : World) :
    Calls Tryd.prog 7 #[.int .i64 (-(u : Int))] w fun e w' => e = .returned (.string ⟨(45 :: Lib.decDigits u).toArray⟩) ∧ Below w.heap.size w w' := by
  have hneg : (-(u : Int)) < 0 := by omega
  have hpos : 0 < u := h1
  have hlen : (Lib.decDigits u).length ≤ 20 := by rw [Lib.decDigits_length]; exact Lib.nDigits_le20 u (by omega)
  go_enter Tryd.func7, Tryd.ntmps7
  go_wp2
  have HO : Hid (Own (w.alloc (.cells #[.int .u8 0, .int .u8 0, .int .u8 0, .int .u8 0, .int .u8 0, .int .u8 0, .int .u8 0, .int .u8 0, .int .u8 0, .int .u8 0, .int .u8 0, .int .u8 0, .int .u8 0, .int .u8 0, .int .u8 0, .int .u8 0, .int .u8 0, .int .u8 0, .int .u8 0, .int .u8 0] 32)) w.heap.size 20 (bufd [])) := own_new w
  have HB : Hid (Below w.heap.size w (w.alloc (.cells #[.int .u8 0, .int .u8 0, .int .u8 0, .int .u8 0, .int .u8 0, .int .u8 0, .int .u8 0, .int .u8 0, .int .u8 0, .int .u8 0, .int .u8 0, .int .u8 0, .int .u8 0, .int .u8 0, .int .u8 0, .int .u8 0, .int .u8 0, .int .u8 0, .int .u8 0, .int .u8 0] 32))) := (Below.refl _ _).alloc (Nat.le_refl _) _
  go_loopw [4, 6] (fun x i wr => ∃ (v m : Nat) (l : List UInt8), v ≤ 9223372036854775808 ∧ l.length + m = 20 ∧ x = .int .u64 v ∧ i = .int .i64 m ∧ Lib.decDigits u = Lib.decDigits v ++ l ∧ Own wr w.heap.size 20 (bufd l) ∧ Below w.heap.size w wr) (fun x _ _ => (intOf x).toNat)
  case atStart => exact ⟨u, 20, [], by omega, rfl, by go_num, rfl, by simp, HO.out, HB.out⟩
  case round =>
    obtain ⟨v, m, l, hv, hlm, rfl, rfl, hdg, hown, hbel⟩ := hrel
    clear HO HB
    have hm0 : 0 < m := by
      have h1 := congrArg List.length hdg
      have h2 := digits_pos v
      simp only [List.length_append] at h1
      omega
    obtain ⟨m', rfl⟩ : ∃ m', m = m' + 1 := ⟨m - 1, by omega⟩
    have hem : 19 - l.length = m' := by omega
    have hc1 := (hown.2 m' (by omega)).1
    have hc2 := (hown.2 m' (by omega)).2
    have hbz : bufd l m' = .int .u8 0 := by unfold bufd; rw [if_neg (by omega)]
    rw [hbz] at hc1
    have HP : Hid (Own (wr.setCell ⟨w.heap.size, m', none⟩ (.int .u8 ((UInt8.ofNat (48 + v % 10)).toNat : Int))) w.heap.size 20 (bufd (UInt8.ofNat (48 + v % 10) :: l))) := by
      have := bufd_push (c := UInt8.ofNat (48 + v % 10)) hown (by omega)
      rw [hem] at this
      exact this
    clear hown hbz hem
    have hby : ((UInt8.ofNat (48 + v % 10)).toNat : Int) = 48 + (v : Int) % 10 := byte_of v
    rw [hby] at HP
    have HB2 : Hid (Below w.heap.size w (wr.setCell ⟨w.heap.size, m', none⟩ (.int .u8 (48 + (v : Int) % 10)))) := hbel.setCell (Nat.le_refl _) _
    have HD : Hid (Lib.decDigits u = Lib.decDigits v ++ l) := hdg
    clear hdg hbel
    by_cases hv10 : v < 10
    · have hq : ((v : Int) / 10 == 0) = true := beq_iff_eq.2 (by omega)
      have hsl := slice_buf (wr.setCell ⟨w.heap.size, m', none⟩ (.int .u8 (48 + (v : Int) % 10))) w.heap.size m' (by omega)
      have hcv := conv_buf HP.out (m := m') (by simp; omega) (20 - m')
      have HL : Hid (UInt8.ofNat (48 + v % 10) :: l = Lib.decDigits u) := by
        show _ = _
        rw [HD.out, Lib.decDigits_one hv10, Nat.mod_eq_of_lt hv10]
        rfl
      rw [HL.out] at hcv
      clear hby
      go_wp2
      go_ret
      exact ⟨rfl, HB2.out⟩
    · have hq : ((v : Int) / 10 == 0) = false := beq_eq_false_iff_ne.2 (by omega)
      have HDN : Hid (Lib.decDigits u = Lib.decDigits (v / 10) ++ (UInt8.ofNat (48 + v % 10) :: l)) := by
        show _ = _
        rw [HD.out, digits_step v hv10]
        simp
      clear hby
      go_wp2
      go_roundw
      case rel => exact ⟨v / 10, m', UInt8.ofNat (48 + v % 10) :: l, by omega, by simp; omega, by go_num, rfl, HDN.out, HP.out, HB2.out⟩
      case measure => simp [intOf]; omega
end Go.Proofs.Qxb6606386aDoor
