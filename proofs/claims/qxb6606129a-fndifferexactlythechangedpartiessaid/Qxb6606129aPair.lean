/-
  THE WALK of zzClonePair: b's pointers, copied; where b's pointer is a's own (or is answered to be), a's copy is taken.
-/
import Derived.Test.Qxb6606129aCloneBlock
import Derived.Test.Qxb6606129aCut
import Derived.Test.Qxb6606129aPtr
import Derived.WalkSmall
namespace Go.Proofs.Qxb6606129a
open Go.RowKit

/-- One pointer of the copy: a's copy, or a twin of b's. -/
def PairAt (B : Nat) (w : World) (na : Nat) (P' Pb : Nat → Option Addr) (La Lb : Nat → Nat → Nat) (Za Zb : Nat → Nat → Nat → Int) (r : Nat) (p : Option Addr) (l : Nat → Nat) (z : Nat → Nat → Int) : Prop :=
  (r < na ∧ p = P' r ∧ l = La r ∧ z = Za r) ∨ (Twin B w (Pb r) p (Lb r) (Zb r) ∧ l = Lb r ∧ z = Zb r)

theorem PairAt.below {B B' : Nat} {w w' : World} {na : Nat} {P' Pb : Nat → Option Addr} {La Lb : Nat → Nat → Nat} {Za Zb : Nat → Nat → Nat → Int} {r : Nat} {p : Option Addr} {l : Nat → Nat} {z : Nat → Nat → Int}
    (h : PairAt B w na P' Pb La Lb Za Zb r p l z) (hb : Below B' w w') (hB : w.heap.size ≤ B') : PairAt B w' na P' Pb La Lb Za Zb r p l z :=
  match h with
  | .inl h0 => .inl h0
  | .inr ⟨h1, h2⟩ => .inr ⟨h1.below hb hB, h2⟩

theorem PairAt.setCell {B : Nat} {w : World} {na : Nat} {P' Pb : Nat → Option Addr} {La Lb : Nat → Nat → Nat} {Za Zb : Nat → Nat → Nat → Int} {r : Nat} {p : Option Addr} {l : Nat → Nat} {z : Nat → Nat → Int}
    (h : PairAt B w na P' Pb La Lb Za Zb r p l z) {q : Addr} (hq : q.block < B) (v : Value) : PairAt B (w.setCell q v) na P' Pb La Lb Za Zb r p l z :=
  match h with
  | .inl h0 => .inl h0
  | .inr ⟨h1, h2⟩ => .inr ⟨h1.setCell hq v, h2⟩

theorem PairAt.mono {B B' : Nat} {w : World} {na : Nat} {P' Pb : Nat → Option Addr} {La Lb : Nat → Nat → Nat} {Za Zb : Nat → Nat → Nat → Int} {r : Nat} {p : Option Addr} {l : Nat → Nat} {z : Nat → Nat → Int}
    (h : PairAt B w na P' Pb La Lb Za Zb r p l z) (hB : B' ≤ B) : PairAt B' w na P' Pb La Lb Za Zb r p l z :=
  match h with
  | .inl h0 => .inl h0
  | .inr ⟨h1, h2⟩ => .inr ⟨h1.mono hB, h2⟩

/-- When k pointers are laid into block g. -/
def PairTo (w : World) (g n k na : Nat) (P' Pb : Nat → Option Addr) (La Lb : Nat → Nat → Nat) (Za Zb : Nat → Nat → Nat → Int) : Prop :=
  ∃ (Pc : Nat → Option Addr) (Lc : Nat → Nat → Nat) (Zc : Nat → Nat → Nat → Int), Own w g n (fun r => if r < k then .pointer (Pc r) else .pointer none) ∧ ∀ r, r < k → PairAt (g + 1) w na P' Pb La Lb Za Zb r (Pc r) (Lc r) (Zc r)

section
variable {w w' : World} {B g n k na : Nat} {P' Pb : Nat → Option Addr} {La Lb : Nat → Nat → Nat} {Za Zb : Nat → Nat → Nat → Int}

theorem PairTo.start (h : Own w g n (fun _ => .pointer none)) : PairTo w g n 0 na P' Pb La Lb Za Zb :=
  ⟨fun _ => none, fun _ _ => 0, fun _ _ _ => 0, h.congr (fun i _ => by simp), fun _ h => absurd h (Nat.not_lt_zero _)⟩

theorem PairTo.place (h : PairTo w g n k na P' Pb La Lb Za Zb) (hk : k < n) : w.cell? ⟨g, k, none⟩ = some (.pointer none) ∧ w.frozen? ⟨g, k, none⟩ = false := by
  obtain ⟨Pc, Lc, Zc, h1, h2⟩ := h
  have := h1.2 k hk
  simpa using this

theorem PairTo.size (h : PairTo w g n k na P' Pb La Lb Za Zb) : g < w.heap.size := by
  obtain ⟨Pc, Lc, Zc, h1, h2⟩ := h
  exact h1.1

theorem PairTo.below (h : PairTo w g n k na P' Pb La Lb Za Zb) (hb : Below B w w') (hB : w.heap.size ≤ B) : PairTo w' g n k na P' Pb La Lb Za Zb := by
  obtain ⟨Pc, Lc, Zc, h1, h2⟩ := h
  exact ⟨Pc, Lc, Zc, h1.below hb (Nat.lt_of_lt_of_le h1.1 hB), fun r hr => (h2 r hr).below hb hB⟩

theorem PairTo.drewN (h : PairTo w g n k na P' Pb La Lb Za Zb) (m : Nat) : PairTo (w.drewN m) g n k na P' Pb La Lb Za Zb :=
  h.below (below_drewN (Below.refl w.heap.size w) m) (Nat.le_refl _)

theorem PairTo.step (h : PairTo w g n k na P' Pb La Lb Za Zb) (hk : k < n) {p : Option Addr} {l : Nat → Nat} {z : Nat → Nat → Int} (hp : PairAt (g + 1) w na P' Pb La Lb Za Zb k p l z) :
    PairTo (w.setCell ⟨g, k, none⟩ (.pointer p)) g n (k + 1) na P' Pb La Lb Za Zb := by
  obtain ⟨Pc, Lc, Zc, h1, h2⟩ := h
  refine ⟨fun r => if r = k then p else Pc r, fun r => if r = k then l else Lc r, fun r => if r = k then z else Zc r, (h1.set k hk _).congr (fun i _ => ?_), fun r hr => ?_⟩
  · by_cases e : i = k
    · subst e; simp
    · by_cases l : i < k
      · simp [e, l, Nat.lt_succ_of_lt l]
      · simp [e, l, show ¬ i < k + 1 by omega]
  · by_cases e : r = k
    · subst e
      simp only [if_true]
      exact hp.setCell (by simp) _
    · simp only [if_neg e]
      exact (h2 r (by omega)).setCell (by simp) _
end

/-- What zzClonePair leaves. -/
def Paired (B : Nat) (w : World) (a : Option Addr) (nb na : Nat) (P' Pb Pc : Nat → Option Addr) (La Lb Lc : Nat → Nat → Nat) (Za Zb Zc : Nat → Nat → Nat → Int) : Prop :=
  Shows w a nb (fun k => .pointer (Pc k)) ∧ ∀ k, k < nb → PairAt B w na P' Pb La Lb Za Zb k (Pc k) (Lc k) (Zc k)

theorem Try.info33p : (Try.prog.info? 33).map (fun i => i.size) = some 64 := by kernel_rfl

set_option maxRecDepth 100000 in
set_option maxHeartbeats 2000000 in
theorem pair_some (na ca nb cb c1 : Nat) (aa a1 : Option Addr) (xb : Addr) (Pa Pb P' : Nat → Option Addr) (La Lb : Nat → Nat → Nat) (Za Zb : Nat → Nat → Nat → Int) (w : World)
    (hA : Blocks w aa na Pa La Za) (hB : Blocks w (some xb) nb Pb Lb Zb) (hC : Shows w a1 na (fun k => .pointer (P' k))) (hnb : nb ≤ 131072) (hLb : Small nb Pb Lb) (hF : ∀ k, k < nb → ∀ y, Pb k = some y → w.frozen? y = false) :
    Calls Try.prog 11 #[.slice aa na ca, .slice (some xb) nb cb, .slice a1 na c1] w fun e w' => ∃ a2 c2 Pc Lc Zc, e = .returned (.slice a2 nb c2) ∧ Paired w.heap.size w' a2 nb na P' Pb Pc La Lb Lc Za Zb Zc ∧ Below w.heap.size w w' := by
  obtain ⟨i0, hi, hz0, hz1, hz2⟩ := info_parts Try.info30
  have hnil := fun w => Lib.run_eql_slice_nil (P := Try.prog) w 22 30 (some xb) nb cb 0 0 Try.underlying22
  obtain ⟨hA1, hA2⟩ := hA
  obtain ⟨hB1, hB2⟩ := hB
  have HA1 : Hid (Shows w aa na (fun k => .pointer (Pa k))) := hA1
  have HC : Hid (Shows w a1 na (fun k => .pointer (P' k))) := hC
  have hB1 := hB1.some
  have HA2 : Hid (∀ k, k < na → ∀ y, Pa k = some y → Block w y (La k) (Za k)) := hA2
  have HB2 : Hid (∀ k, k < nb → ∀ y, Pb k = some y → Block w y (Lb k) (Zb k)) := hB2
  have HF : Hid (∀ k, k < nb → ∀ y, Pb k = some y → w.frozen? y = false) := hF
  have HL : Hid (Small nb Pb Lb) := hLb
  clear hA1 hA2 hB2 hC hF hLb
  go_enter Try.func11, Try.ntmps11
  go_wp2_with (at_make; refine wpList_make_full _ rfl _ _ 22 rfl w.heap.size 30 i0 (.pointer none) 1 Try.underlying22 hi hz0 hz1 _ _ _ _ nb rfl rfl rfl rfl ?b1 ?b2 ?b3 ?_)
  case b1 => rw [hz2]; omega
  case b2 => unfold maxLen; omega
  case b3 => exact Nat.le_refl _
  intro w1 hown hgrow
  have ho : PairTo w1 w.heap.size nb 0 na P' Pb La Lb Za Zb := PairTo.start (own_made hown)
  have hb : Below w.heap.size w w1 := (Below.refl _ _).grown hgrow (Nat.le_refl _) (fun _ h => by cases h)
  clear hown hgrow hi hz0 hz1 hz2
  go_wp2
  go_loopw [8] (fun i wr => ∃ k : Nat, k ≤ nb ∧ i = .int .i64 k ∧ PairTo wr w.heap.size nb k na P' Pb La Lb Za Zb ∧ Below w.heap.size w wr) (fun i _ => nb - (intOf i).toNat)
  case atStart => exact ⟨0, Nat.zero_le _, rfl, ho, hb⟩
  case round =>
    obtain ⟨k, hk, rfl, hor, hbr⟩ := hrel
    clear ho hb
    by_cases hlt : k < nb
    · have HOR : Hid (PairTo wr w.heap.size nb k na P' Pb La Lb Za Zb) := hor
      have HBR : Hid (Below w.heap.size w wr) := hbr
      have hcb : wr.cell? (xb.add k) = some (.pointer (Pb k)) := by rw [hbr.cell (by rw [add_block]; exact (hB1 k hlt).1)]; exact (hB1 k hlt).2
      have HCB : Hid (xb.block < w.heap.size ∧ w.cell? (xb.add k) = some (.pointer (Pb k))) := hB1 k hlt
      have HCL : Hid (∀ W, Below w.heap.size w W → Calls Try.prog 21 #[.pointer (Pb k)] W fun e w' => ∃ p', e = .returned (.pointer p') ∧ Twin W.heap.size w' (Pb k) p' (Lb k) (Zb k) ∧ Below W.heap.size W w') :=
        fun W hW => cloneBlock (Pb k) (Lb k) (Zb k) W (fun y hy => (HB2.out k hlt y hy).below hW (Nat.le_refl _)) (HL.out k hlt)
      have hBk := HB2.out k hlt
      have hFk := HF.out k hlt
      have hki : (k : Int) < (nb : Int) := by omega
      clear hor hbr hB1 HB2 HF HL
      obtain ⟨pb, hpb⟩ : ∃ pb, Pb k = pb := ⟨_, rfl⟩
      have HPB : Hid (Pb k = pb) := hpb
      rw [hpb] at hcb HCB HCL hBk hFk
      clear hpb
      by_cases hka : k < na
      · obtain ⟨xc, rfl, hxc, hcc⟩ := HC.out k hka
        have HCC : Hid (xc.block < w.heap.size ∧ w.cell? (xc.add k) = some (.pointer (P' k))) := ⟨hxc, hcc⟩
        obtain ⟨xa, rfl, hxa, hca0⟩ := HA1.out k hka
        have hca : wr.cell? (xa.add k) = some (.pointer (Pa k)) := by rw [HBR.out.cell (by rw [add_block]; exact hxa)]; exact hca0
        have hAk := HA2.out k hka
        have hkj : (k : Int) < (na : Int) := by omega
        clear hxc hcc hxa hca0 HA1 HA2 HC
        generalize Pa k = pa at hca hAk
        cases pb with
        | none =>
          cases pa with
          | none =>
            clear hAk hBk hFk
            go_wp2
            go_quiet (fail)
            clear hca hcb
            have HOQ : Hid (PairTo (wr.drewN nq) w.heap.size nb k na P' Pb La Lb Za Zb) := HOR.out.drewN nq
            have HBQ : Hid (Below w.heap.size w (wr.drewN nq)) := below_drewN HBR.out nq
            generalize wr.drewN nq = wq at HOQ HBQ ⊢
            have hcc' : wq.cell? (xc.add k) = some (.pointer (P' k)) := by rw [HBQ.out.cell (by rw [add_block]; exact HCC.out.1)]; exact HCC.out.2
            obtain ⟨hc1, hc2⟩ := HOQ.out.place hlt
            have HST : Hid (PairTo (wq.setCell ⟨w.heap.size, k, none⟩ (.pointer (P' k))) w.heap.size nb (k + 1) na P' Pb La Lb Za Zb) := HOQ.out.step hlt (.inl ⟨hka, rfl, rfl, rfl⟩)
            go_wp2
            go_roundw
            case rel => exact ⟨k + 1, by omega, by go_num, HST.out, HBQ.out.setCell (Nat.le_refl _) _⟩
            case measure => simp [intOf]; omega
          | some z =>
            have hnz := fun w => run_eql_nil_some (P := Try.prog) w (tp := 30) z Try.underlying30
            clear hAk hBk hFk
            go_wp2
            go_quiet (fail)
            clear hca hcb
            have HOQ : Hid (PairTo (wr.drewN nq) w.heap.size nb k na P' Pb La Lb Za Zb) := HOR.out.drewN nq
            have HBQ : Hid (Below w.heap.size w (wr.drewN nq)) := below_drewN HBR.out nq
            generalize wr.drewN nq = wq at HOQ HBQ ⊢
            have hcb2 : wq.cell? (xb.add k) = some (.pointer none) := by rw [HBQ.out.cell (by rw [add_block]; exact HCB.out.1)]; exact HCB.out.2
            go_wp2_with fail
            refine (HCL.out wq HBQ.out).mono ?_
            rintro e w2 ⟨p', rfl, htw, hb2⟩
            have hor2 := HOQ.out.below hb2 (Nat.le_refl _)
            obtain ⟨hc1, hc2⟩ := hor2.place hlt
            have hsz := HOQ.out.size
            have HST : Hid (PairTo (w2.setCell ⟨w.heap.size, k, none⟩ (.pointer p')) w.heap.size nb (k + 1) na P' Pb La Lb Za Zb) := hor2.step hlt (.inr ⟨by rw [HPB.out]; exact htw.mono (by omega), rfl, rfl⟩)
            have HBN : Hid (Below w.heap.size w w2) := HBQ.out.trans (hb2.mono (by have := HBQ.out.size; omega))
            clear hor2 htw hb2 hcb2
            go_wp2
            go_roundw
            case rel => exact ⟨k + 1, by omega, by go_num, HST.out, HBN.out.setCell (Nat.le_refl _) _⟩
            case measure => simp [intOf]; omega
        | some z =>
          cases pa with
          | none =>
            clear hAk hBk hFk
            go_wp2
            go_quiet (fail)
            clear hca hcb
            have HOQ : Hid (PairTo (wr.drewN nq) w.heap.size nb k na P' Pb La Lb Za Zb) := HOR.out.drewN nq
            have HBQ : Hid (Below w.heap.size w (wr.drewN nq)) := below_drewN HBR.out nq
            generalize wr.drewN nq = wq at HOQ HBQ ⊢
            have hcb2 : wq.cell? (xb.add k) = some (.pointer (some z)) := by rw [HBQ.out.cell (by rw [add_block]; exact HCB.out.1)]; exact HCB.out.2
            go_wp2_with fail
            refine (HCL.out wq HBQ.out).mono ?_
            rintro e w2 ⟨p', rfl, htw, hb2⟩
            have hor2 := HOQ.out.below hb2 (Nat.le_refl _)
            obtain ⟨hc1, hc2⟩ := hor2.place hlt
            have hsz := HOQ.out.size
            have HST : Hid (PairTo (w2.setCell ⟨w.heap.size, k, none⟩ (.pointer p')) w.heap.size nb (k + 1) na P' Pb La Lb Za Zb) := hor2.step hlt (.inr ⟨by rw [HPB.out]; exact htw.mono (by omega), rfl, rfl⟩)
            have HBN : Hid (Below w.heap.size w w2) := HBQ.out.trans (hb2.mono (by have := HBQ.out.size; omega))
            clear hor2 htw hb2 hcb2
            go_wp2
            go_roundw
            case rel => exact ⟨k + 1, by omega, by go_num, HST.out, HBN.out.setCell (Nat.le_refl _) _⟩
            case measure => simp [intOf]; omega
          | some y =>
            obtain ⟨j33, hj33, hs33⟩ := Option.map_eq_some_iff.1 Try.info33p
            obtain ⟨A, C, g1, _⟩ := hAk y rfl
            obtain ⟨A', C', g2, _⟩ := hBk z rfl
            have hcy := (g1.some 0 (by omega)).2
            have hcz := (g2.some 0 (by omega)).2
            have hby := (g1.some 0 (by omega)).1
            have hbz := (g2.some 0 (by omega)).1
            rw [show y.add 0 = y from rfl] at hcy
            rw [show z.add 0 = z from rfl] at hcz
            obtain ⟨r, m2, heql, _⟩ := run_eql_any (P := Try.prog) (wr.drewN 1) (tp := 30) Try.underlying30 hj33 (by omega) (y := z) (z := y) (HBR.out.cell hbz |>.trans hcz) (HBR.out.cell hby |>.trans hcy) (HBR.out.frozen hbz |>.trans (hFk z rfl))
            rw [World.drewN_drewN] at heql
            have heql' : (binOp .eql 30 (.pointer (some z)) (.pointer (some y))).run Try.prog wr.drew = .ok (.bool r) (wr.drewN (1 + m2)) := heql
            clear heql
            clear hAk hBk hFk g1 g2 hcy hcz hby hbz hj33 hs33
            go_wp2
            refine wp_region_cut 13 _ rfl (by kernel_rfl) (by kernel_rfl) ?_
            simp only [List.take_succ_cons, List.take_zero]
            repeat (go_big_quiet_step (fail))
            refine wpQuiet_nil ?_
            refine ⟨.bool r, 1 + m2, rfl, ?_, ?_⟩
            · clear hca hcb
              go_simp
            · simp only [List.drop_succ_cons, List.drop_zero]
              clear heql'
              cases r
              · quiet_step (fail)
                repeat (go_big_quiet_step (fail))
                refine wpQuiet_nil ?_
                intro _ hw'
                obtain ⟨nq, hw''⟩ := hw'
                subst hw''
                clear hca hcb
                have HOQ : Hid (PairTo (wr.drewN nq) w.heap.size nb k na P' Pb La Lb Za Zb) := HOR.out.drewN nq
                have HBQ : Hid (Below w.heap.size w (wr.drewN nq)) := below_drewN HBR.out nq
                generalize wr.drewN nq = wq at HOQ HBQ ⊢
                have hcb2 : wq.cell? (xb.add k) = some (.pointer (some z)) := by rw [HBQ.out.cell (by rw [add_block]; exact HCB.out.1)]; exact HCB.out.2
                go_wp2_with fail
                refine (HCL.out wq HBQ.out).mono ?_
                rintro e w2 ⟨p', rfl, htw, hb2⟩
                have hor2 := HOQ.out.below hb2 (Nat.le_refl _)
                obtain ⟨hc1, hc2⟩ := hor2.place hlt
                have hsz := HOQ.out.size
                have HST : Hid (PairTo (w2.setCell ⟨w.heap.size, k, none⟩ (.pointer p')) w.heap.size nb (k + 1) na P' Pb La Lb Za Zb) := hor2.step hlt (.inr ⟨by rw [HPB.out]; exact htw.mono (by omega), rfl, rfl⟩)
                have HBN : Hid (Below w.heap.size w w2) := HBQ.out.trans (hb2.mono (by have := HBQ.out.size; omega))
                clear hor2 htw hb2 hcb2
                go_wp2
                go_roundw
                case rel => exact ⟨k + 1, by omega, by go_num, HST.out, HBN.out.setCell (Nat.le_refl _) _⟩
                case measure => simp [intOf]; omega
              · quiet_step (fail)
                repeat (go_big_quiet_step (fail))
                refine wpQuiet_nil ?_
                intro _ hw'
                obtain ⟨nq, hw''⟩ := hw'
                subst hw''
                clear hca hcb
                have HOQ : Hid (PairTo (wr.drewN nq) w.heap.size nb k na P' Pb La Lb Za Zb) := HOR.out.drewN nq
                have HBQ : Hid (Below w.heap.size w (wr.drewN nq)) := below_drewN HBR.out nq
                generalize wr.drewN nq = wq at HOQ HBQ ⊢
                have hcc' : wq.cell? (xc.add k) = some (.pointer (P' k)) := by rw [HBQ.out.cell (by rw [add_block]; exact HCC.out.1)]; exact HCC.out.2
                obtain ⟨hc1, hc2⟩ := HOQ.out.place hlt
                have HST : Hid (PairTo (wq.setCell ⟨w.heap.size, k, none⟩ (.pointer (P' k))) w.heap.size nb (k + 1) na P' Pb La Lb Za Zb) := HOQ.out.step hlt (.inl ⟨hka, rfl, rfl, rfl⟩)
                go_wp2
                go_roundw
                case rel => exact ⟨k + 1, by omega, by go_num, HST.out, HBQ.out.setCell (Nat.le_refl _) _⟩
                case measure => simp [intOf]; omega
      · have hkn : decide ((k : Int) < (na : Int)) = false := by simp; omega
        have hkn' : decide (k < na) = false := by simp; omega
        clear hBk hFk HA1 HA2 HC
        go_wp2
        go_quiet (fail)
        clear hcb
        have HOQ : Hid (PairTo (wr.drewN nq) w.heap.size nb k na P' Pb La Lb Za Zb) := HOR.out.drewN nq
        have HBQ : Hid (Below w.heap.size w (wr.drewN nq)) := below_drewN HBR.out nq
        generalize wr.drewN nq = wq at HOQ HBQ ⊢
        have hcb2 : wq.cell? (xb.add k) = some (.pointer pb) := by rw [HBQ.out.cell (by rw [add_block]; exact HCB.out.1)]; exact HCB.out.2
        go_wp2_with fail
        refine (HCL.out wq HBQ.out).mono ?_
        rintro e w2 ⟨p', rfl, htw, hb2⟩
        have hor2 := HOQ.out.below hb2 (Nat.le_refl _)
        obtain ⟨hc1, hc2⟩ := hor2.place hlt
        have hsz := HOQ.out.size
        have HST : Hid (PairTo (w2.setCell ⟨w.heap.size, k, none⟩ (.pointer p')) w.heap.size nb (k + 1) na P' Pb La Lb Za Zb) := hor2.step hlt (.inr ⟨by rw [HPB.out]; exact htw.mono (by omega), rfl, rfl⟩)
        have HBN : Hid (Below w.heap.size w w2) := HBQ.out.trans (hb2.mono (by have := HBQ.out.size; omega))
        clear hor2 htw hb2 hcb2
        go_wp2
        go_roundw
        case rel => exact ⟨k + 1, by omega, by go_num, HST.out, HBN.out.setCell (Nat.le_refl _) _⟩
        case measure => simp [intOf]; omega
    · have he : k = nb := by omega
      subst he
      obtain ⟨Pc, Lc, Zc, h1, h2⟩ := hor
      have HSH : Hid (Paired w.heap.size wr (some ⟨w.heap.size, 0, none⟩) k na P' Pb Pc La Lb Lc Za Zb Zc) :=
        ⟨(h1.congr (f' := fun r => .pointer (Pc r)) (fun i hi => by simp [hi])).shows, fun r hr => (h2 r hr).mono (by omega)⟩
      clear h1 h2 hB1
      go_wp2
      go_ret
      exact ⟨_, _, Pc, Lc, Zc, rfl, HSH.out, hbr⟩

theorem pair_none (na ca nb cb c1 : Nat) (aa a1 : Option Addr) (w : World) :
    Calls Try.prog 11 #[.slice aa na ca, .slice none nb cb, .slice a1 na c1] w fun e w' => e = .returned (.slice none 0 0) ∧ w = w' := by
  have hnil := fun w => Lib.run_eql_slice_nil (P := Try.prog) w 22 30 none nb cb 0 0 Try.underlying22
  go_enter Try.func11, Try.ntmps11
  go_wp2
  go_ret
  exact ⟨rfl, rfl⟩

/-- zzClonePair. -/
theorem pair (na ca nb cb c1 : Nat) (aa ab a1 : Option Addr) (Pa Pb P' : Nat → Option Addr) (La Lb : Nat → Nat → Nat) (Za Zb : Nat → Nat → Nat → Int) (w : World)
    (hA : Blocks w aa na Pa La Za) (hB : Blocks w ab nb Pb Lb Zb) (hC : Shows w a1 na (fun k => .pointer (P' k))) (hnb : nb ≤ 131072) (hLb : Small nb Pb Lb) (hF : ∀ k, k < nb → ∀ y, Pb k = some y → w.frozen? y = false) :
    Calls Try.prog 11 #[.slice aa na ca, .slice ab nb cb, .slice a1 na c1] w fun e w' => ∃ a2 c2 Pc Lc Zc, e = .returned (.slice a2 nb c2) ∧ Paired w.heap.size w' a2 nb na P' Pb Pc La Lb Lc Za Zb Zc ∧ Below w.heap.size w w' := by
  cases ab with
  | some x => exact pair_some na ca nb cb c1 aa a1 x Pa Pb P' La Lb Za Zb w hA hB hC hnb hLb hF
  | none =>
    obtain rfl := hB.1.none
    refine (pair_none na ca 0 cb c1 aa a1 w).mono ?_
    rintro e w' ⟨rfl, rfl⟩
    exact ⟨_, _, fun _ => none, fun _ _ => 0, fun _ _ _ => 0, rfl, ⟨Shows.zero, fun _ c => absurd c (Nat.not_lt_zero _)⟩, Below.refl _ _⟩
end Go.Proofs.Qxb6606129a
