/-
  THE WALKS of union and ZZUnion.
-/
import Derived.Test.Qxb6606129aMet
namespace Go.Proofs.Qxb6606129a
open Go.RowKit

/-- Is x in one of the first k used rows? -/
def orUp (U : Nat → Nat) (L : Nat → Nat) (Z : Nat → Nat → Bool) : Nat → Nat → Bool
  | 0, _ => false
  | k + 1, x => orUp U L Z k x || (decide (x < L (U k)) && Z (U k) x)

theorem or_start (U L : Nat → Nat) (Z : Nat → Nat → Bool) (k i : Nat) : orUp U L Z k i = (orUp U L Z k i || (decide (i < 0) && Z (U k) i)) := by simp

theorem or_set {w : World} {g n c : Nat} {F Y : Nat → Bool} (h : Own w g n (fun i => .bool (F i || (decide (i < c) && Y i)))) (hc : c < n) :
    Own (w.setCell ⟨g, c, none⟩ (.bool (F c || Y c))) g n (fun i => .bool (F i || (decide (i < c + 1) && Y i))) := by
  refine (h.set c hc _).congr (fun i _ => ?_)
  by_cases e : i = c
  · subst e; simp
  · by_cases l : i < c
    · simp [e, l, Nat.lt_succ_of_lt l]
    · simp [e, l, show ¬ i < c + 1 by omega]

theorem or_end {w : World} {g n k j lj : Nat} {U L : Nat → Nat} {Z : Nat → Nat → Bool} (HJ : Hid (j = U k)) (HL : Hid (L j = lj)) (h : Own w g n (fun x => .bool (orUp U L Z k x || (decide (x < lj) && Z j x)))) :
    Own w g n (fun x => .bool (orUp U L Z (k + 1) x)) := by
  refine h.congr (fun i _ => ?_)
  obtain rfl := HJ.out
  obtain rfl := HL.out
  rfl

set_option maxHeartbeats 1000000 in
theorem union_walk (n nm cm mu cu : Nat) (xm : Addr) (au : Option Addr) (U L : Nat → Nat) (Z : Nat → Nat → Bool) (w : World)
    (hm : Grid w (some xm) nm L Z) (hu : Shows w au mu (fun i => .int .i64 (U i : Nat))) (hn : n ≤ 65536) (hmu : mu ≤ 1048576) (hU : ∀ k, k < mu → U k < nm ∧ L (U k) ≤ n) :
    Calls Try.prog 24 #[.int .i64 n, .slice (some xm) nm cm, .slice au mu cu] w fun e w' => ∃ g, e = .returned (.slice (some ⟨g, 0, none⟩) n n) ∧ Own w' g n (fun x => .bool (orUp U L Z mu x)) ∧ Below w.heap.size w w' := by
  obtain ⟨i0, hi, hz0, hz1, hz2⟩ := info_parts Try.info4
  obtain ⟨A, C, h1, h2⟩ := hm
  have h1 := h1.some
  have H2 : Hid (∀ r, r < nm → Shows w (A r) (L r) (fun c => .bool (Z r c))) := h2
  have HU : Hid (∀ k, k < mu → U k < nm ∧ L (U k) ≤ n) := hU
  clear h2 hU
  go_enter Try.func24, Try.ntmps24
  go_wp2_with (at_make; refine wpList_make_full _ rfl _ _ 39 rfl w.heap.size 4 i0 (.bool false) 1 Try.underlying39 hi hz0 hz1 _ _ _ _ n rfl rfl rfl rfl ?b1 ?b2 ?b3 ?_)
  case b1 => rw [hz2]; omega
  case b2 => unfold maxLen; omega
  case b3 => exact Nat.le_refl _
  intro w1 hown hgrow
  have ho : Own w1 w.heap.size n (fun x => .bool (orUp U L Z 0 x)) := (own_made hown).congr (fun _ _ => rfl)
  have hb : Below w.heap.size w w1 := (Below.refl _ _).grown hgrow (Nat.le_refl _) (fun _ h => by cases h)
  clear hown hgrow
  go_wp2
  go_loopw [16] (fun i wr => ∃ k : Nat, k ≤ mu ∧ i = .int .i64 k ∧ Own wr w.heap.size n (fun x => .bool (orUp U L Z k x)) ∧ Below w.heap.size w wr) (fun i _ => mu - (intOf i).toNat)
  case atStart => exact ⟨0, Nat.zero_le _, rfl, ho, hb⟩
  case round =>
    obtain ⟨k, hk, rfl, hor, hbr⟩ := hrel
    clear ho hb
    by_cases hlt : k < mu
    · obtain ⟨xu, rfl, hux, hcu⟩ := hu k hlt
      have hcu' : wr.cell? (xu.add k) = some (.int .i64 (U k : Nat)) := by rw [hbr.cell (by rw [add_block]; exact hux)]; exact hcu
      clear hcu hux
      obtain ⟨hj, hLn⟩ := HU.out k hlt
      have hcm : wr.cell? (xm.add (U k)) = some (.slice (A (U k)) (L (U k)) (C (U k))) := by rw [hbr.cell (by rw [add_block]; exact (h1 _ hj).1)]; exact (h1 _ hj).2
      have hrow := H2.out _ hj
      clear h1 hu H2 HU
      obtain ⟨j, hjd⟩ : ∃ j, j = U k := ⟨_, rfl⟩
      rw [← hjd] at hcu' hcm hrow hj hLn
      have HJ : Hid (j = U k) := hjd
      clear hjd
      have hor0 : Own wr w.heap.size n (fun x => .bool (orUp U L Z k x || (decide (x < 0) && Z j x))) := hor.congr (fun i _ => by simp)
      clear hor
      generalize A j = aj at hcm hrow
      generalize hlj : L j = lj at hcm hrow hLn
      have HLJ : Hid (L j = lj) := hlj
      clear hlj
      generalize C j = cj at hcm
      cases aj with
      | none =>
        obtain rfl := hrow.none
        clear hrow
        have hend : Own wr w.heap.size n (fun x => .bool (orUp U L Z (k + 1) x)) := or_end HJ HLJ hor0
        clear hor0
        go_wp2
        refine wp_loop_rounds 1 ?_
        rw [rounds_succ]
        go_wp2
        go_roundw
        case rel => exact ⟨k + 1, by omega, by go_num, hend, hbr⟩
        case measure => simp [intOf]; omega
      | some xr =>
        have hrow' := hrow.some
        clear hrow
        go_wp2
        go_loopw [25] (fun i w3 => ∃ c : Nat, c ≤ lj ∧ i = .int .i64 c ∧ Own w3 w.heap.size n (fun x => .bool (orUp U L Z k x || (decide (x < c) && Z j x))) ∧ Below w.heap.size w w3) (fun i _ => lj - (intOf i).toNat)
        case atStart => exact ⟨0, Nat.zero_le _, rfl, hor0, hbr⟩
        case round =>
          obtain ⟨c, hc, rfl, hor, hb3⟩ := hrel
          clear hor0 hbr
          by_cases hlc : c < lj
          · have hcr : wr.cell? (xr.add c) = some (.bool (Z j c)) := by rw [hb3.cell (by rw [add_block]; exact (hrow' c hlc).1)]; exact (hrow' c hlc).2
            have hcn : c < n := by omega
            have hc1 := (hor.2 c hcn).1
            have hc2 := (hor.2 c hcn).2
            simp only [Nat.lt_irrefl, decide_false, Bool.false_and, Bool.or_false] at hc1
            have hst := or_set (F := orUp U L Z k) (Y := Z j) hor hcn
            generalize orUp U L Z k c = F at hc1 hst
            generalize Z j c = Y at hcr hst
            have HST : Hid (Own (wr.setCell ⟨w.heap.size, c, none⟩ (.bool (F || Y))) w.heap.size n (fun i => .bool (orUp U L Z k i || (decide (i < c + 1) && Z j i)))) := hst
            clear hst hor hrow' hcu' hcm
            cases F
            · simp only [Bool.false_or] at HST
              go_wp2
              go_roundw
              case rel => exact ⟨c + 1, by omega, by go_num, HST.out, hb3.setCell (Nat.le_refl _) _⟩
              case measure => simp [intOf]; omega
            · simp only [Bool.true_or] at HST
              go_wp2
              go_roundw
              case rel => exact ⟨c + 1, by omega, by go_num, HST.out, hb3.setCell (Nat.le_refl _) _⟩
              case measure => simp [intOf]; omega
          · have he : c = lj := by omega
            subst he
            have hend : Own wr w.heap.size n (fun x => .bool (orUp U L Z (k + 1) x)) := or_end HJ HLJ hor
            clear hor hrow' hcu' hcm
            go_wp2
            go_roundw
            case rel => exact ⟨k + 1, by omega, by go_num, hend, hb3⟩
            case measure => simp [intOf]; omega
    · have he : k = mu := by omega
      subst he
      clear h1 hu
      go_wp2
      go_ret
      exact ⟨_, rfl, hor, hbr⟩

/-- met is nil, or its rows are none: then no row is used. -/
theorem union_none (n nm cm mu cu : Nat) (am au : Option Addr) (w : World) (hmu : mu = 0) (hn : n ≤ 65536) :
    Calls Try.prog 24 #[.int .i64 n, .slice am nm cm, .slice au mu cu] w fun e w' => ∃ g, e = .returned (.slice (some ⟨g, 0, none⟩) n n) ∧ Own w' g n (fun _ => .bool false) ∧ Below w.heap.size w w' := by
  subst hmu
  obtain ⟨i0, hi, hz0, hz1, hz2⟩ := info_parts Try.info4
  go_enter Try.func24, Try.ntmps24
  go_wp2_with (at_make; refine wpList_make_full _ rfl _ _ 39 rfl w.heap.size 4 i0 (.bool false) 1 Try.underlying39 hi hz0 hz1 _ _ _ _ n rfl rfl rfl rfl ?b1 ?b2 ?b3 ?_)
  case b1 => rw [hz2]; omega
  case b2 => unfold maxLen; omega
  case b3 => exact Nat.le_refl _
  intro w1 hown hgrow
  have ho := own_made hown
  have hb : Below w.heap.size w w1 := (Below.refl _ _).grown hgrow (Nat.le_refl _) (fun _ h => by cases h)
  clear hown hgrow
  go_wp2
  refine wp_loop_rounds 1 ?_
  rw [rounds_succ]
  go_wp2
  go_ret
  exact ⟨_, rfl, ho, hb⟩

theorem union_any (n nm cm mu cu : Nat) (am au : Option Addr) (U L : Nat → Nat) (Z : Nat → Nat → Bool) (w : World)
    (hm : Grid w am nm L Z) (hu : Shows w au mu (fun i => .int .i64 (U i : Nat))) (hn : n ≤ 65536) (hmu : mu ≤ 1048576) (hU : ∀ k, k < mu → U k < nm ∧ L (U k) ≤ n) :
    Calls Try.prog 24 #[.int .i64 n, .slice am nm cm, .slice au mu cu] w fun e w' => ∃ g, e = .returned (.slice (some ⟨g, 0, none⟩) n n) ∧ Own w' g n (fun x => .bool (orUp U L Z mu x)) ∧ Below w.heap.size w w' := by
  by_cases h0 : 0 < mu
  · obtain ⟨A, C, h1, h2⟩ := hm
    obtain ⟨x, rfl, _⟩ := h1 (U 0) (hU 0 h0).1
    exact union_walk n nm cm mu cu x au U L Z w ⟨A, C, h1, h2⟩ hu hn hmu hU
  · have e0 : mu = 0 := by omega
    refine (union_none n nm cm mu cu am au w e0 hn).mono ?_
    rintro e w' ⟨g, rfl, ho, hb⟩
    subst e0
    exact ⟨g, rfl, ho, hb⟩

/-- ZZUnion hands on to union. -/
theorem zzUnion (n nm cm mu cu : Nat) (am au : Option Addr) (U L : Nat → Nat) (Z : Nat → Nat → Bool) (w : World)
    (hm : Grid w am nm L Z) (hu : Shows w au mu (fun i => .int .i64 (U i : Nat))) (hn : n ≤ 65536) (hmu : mu ≤ 1048576) (hU : ∀ k, k < mu → U k < nm ∧ L (U k) ≤ n) :
    Calls Try.prog 20 #[.int .i64 n, .slice am nm cm, .slice au mu cu] w fun e w' => ∃ g, e = .returned (.slice (some ⟨g, 0, none⟩) n n) ∧ Own w' g n (fun x => .bool (orUp U L Z mu x)) ∧ Below w.heap.size w w' := by
  have H := union_any n nm cm mu cu am au U L Z w hm hu hn hmu hU
  have HH : Hid (Calls Try.prog 24 #[.int .i64 n, .slice am nm cm, .slice au mu cu] w fun e w' => ∃ g, e = .returned (.slice (some ⟨g, 0, none⟩) n n) ∧ Own w' g n (fun x => .bool (orUp U L Z mu x)) ∧ Below w.heap.size w w') := H
  clear H hm hu hU
  go_enter Try.func20, Try.ntmps20
  go_wp2_with fail
  refine HH.out.mono ?_
  rintro e w' ⟨g, rfl, ho, hb⟩
  go_wp2
  go_ret
  exact ⟨_, rfl, ho, hb⟩
end Go.Proofs.Qxb6606129a
