/-
  THE WALK of FnDifferReportsTheOneChangedList.
-/
import Derived.Test.Qxb6606129aOne
namespace Go.Proofs.Qxb6606129a
open Go.RowKit

theorem budget_full (n c : Nat) (a : Option Addr) (P : Nat → Option Addr) (L : Nat → Nat → Nat) (Z : Nat → Nat → Nat → Int) (w : World) (hm : Blocks w a n P L Z) :
    Calls Try.prog 8 #[.slice a n c, .int .i64 1048576] w fun e w' => SaysInt (fun r => r = -1 ∨ (0 ≤ r ∧ r ≤ 1048576 ∧ n ≤ 131072 ∧ Small n P L)) w e w' := by
  have h := budget 1048576 n c (Nat.le_refl _) a P L Z w hm
  have e : ((1048576 : Nat) : Int) = 1048576 := by omega
  rw [e] at h
  exact h

theorem add_lit (g i : Nat) : (⟨g, 0, none⟩ : Addr).add i = ⟨g, i, none⟩ := by
  unfold Addr.add
  by_cases h0 : i = 0
  · subst h0; rfl
  · rw [if_neg h0]; simp

/-- The cells of a block that shows f. -/
theorem cells_of {w1 wr : World} {gy : Nat} {f : Nat → Value} {cs : Array Value} {t0 : TypeId} (h : Shows w1 (some ⟨gy, 0, none⟩) 64 f) (hb : Below w1.heap.size w1 wr) (hh : wr.heap[gy]? = some (.cells cs t0 (0, 0))) :
    ∀ i, i < 64 → cs[i]? = some (f i) := by
  intro i hi
  obtain ⟨h1, h2⟩ := h.some i hi
  rw [add_lit] at h2
  rw [← h2, ← hb.cell (p := ⟨gy, i, none⟩) h1, cell_of_row wr gy i cs t0 (0, 0) hh]

theorem ones_of {cs : Array Value} {A : Nat → Option Addr} {L C : Nat → Nat} (hs : cs.size = 64) (h : ∀ i, i < 64 → cs[i]? = some (.slice (A i) (L i) (C i))) : cs.all (·.oneCell') = true := by
  rw [Array.all_eq_true]
  intro i hi
  have := h i (by omega)
  rw [Array.getElem?_eq_getElem hi] at this
  rw [Option.some.inj this]
  rfl

/-- A whole row stored into a block just laid. -/
theorem wpList_store_laid {P : Program} {ops : Array Oper} {rest : List Oper} {o : Oper} {a : Act} {wr : World} {Q : Exit → Act → World → Prop} (hgd : o.guard = none) (ty : TypeId) (x y : Operand) (ho : o.op = .store ty x y)
    (zs cells : Array Value) (t : TypeId) (f : Nat → Value) (hx : a.eval x = .pointer (some ⟨wr.heap.size, 0, none⟩)) (hy : a.eval y = .agg cells) (hi : (P.info? ty).map (·.size) = some cells.size)
    (hold : zs.size = cells.size) (h1 : cells.all (·.oneCell') = true) (hcs : cells.size = 64) (hf : ∀ i, i < 64 → cells[i]? = some (f i))
    (h : ∀ w3, Own w3 wr.heap.size 64 f → Plain w3 wr.heap.size → Below wr.heap.size wr w3 → wpList P ops Q rest (a.put o.dst undef) w3) : wpList P ops Q (o :: rest) a (wr.alloc (.cells zs t)) := by
  have hh : ((wr.alloc (.cells zs t)).setRow wr.heap.size cells).heap[wr.heap.size]? = some (.cells cells t (0, 0)) := setRow_heap _ _ _ _ _ _ (heap_alloc_new _ _)
  have hb : Below wr.heap.size wr ((wr.alloc (.cells zs t)).setRow wr.heap.size cells) := by
    refine ((Below.refl _ _).alloc (Nat.le_refl _) (.cells zs t)).trans ⟨rfl, rfl, rfl, by simp, fun k hk => ?_⟩
    simp only [World.setRow, Array.getElem?_modify]
    rw [if_neg (by omega)]
  refine wpList_store_row hgd ty x y ho wr.heap.size cells hx hy t zs (heap_alloc_new _ _) hi hold h1 (h _ ⟨(Array.getElem?_eq_some_iff.1 hh).1, fun i hi => ⟨?_, ?_⟩⟩ ⟨cells, t, hh, hcs⟩ hb)
  · rw [cell_of_row _ _ _ _ _ _ hh]
    exact hf i hi
  · exact frozen_of_row _ _ _ _ _ hh

set_option maxRecDepth 100000 in
set_option maxHeartbeats 2000000 in
theorem law_reports (an p v : Int) (n c : Nat) (a : Option Addr) (P : Nat → Option Addr) (L : Nat → Nat → Nat) (Z : Nat → Nat → Nat → Int) (w : World) (hm : Blocks w a n P L Z) :
    Calls Try.prog 4 #[.slice a n c, .int .i64 an, .int .i64 p, .int .i64 v] w fun e w' => e = .returned (.bool true) ∧ Below w.heap.size w w' := by
  have HM : Hid (Blocks w a n P L Z) := hm
  clear hm
  go_enter Try.func4, Try.ntmps4
  go_wp2_with fail
  refine (bytesReports an p v n c a P L Z w HM.out).mono ?_
  rintro e w' ⟨b, rfl, rfl, -⟩
  cases b
  · go_wp2
    go_ret
    exact ⟨rfl, Below.refl _ _⟩
  go_wp2_with fail
  refine (budget_full n c a P L Z w HM.out).mono ?_
  rintro e w' ⟨r, rfl, rfl, hr⟩
  rcases hr with rfl | ⟨hr0, hr1, hn, hsm⟩
  · go_wp2
    go_ret
    exact ⟨rfl, Below.refl _ _⟩
  have HS : Hid (Small n P L) := hsm
  clear hsm
  by_cases hp0 : p < 0
  · go_wp2
    go_ret
    exact ⟨rfl, Below.refl _ _⟩
  by_cases hp1 : (n : Int) * 64 ≤ p
  · go_wp2
    go_ret
    exact ⟨rfl, Below.refl _ _⟩
  obtain ⟨K, I, hK, hI, hpe⟩ : ∃ K I : Nat, K < n ∧ I < 64 ∧ p = (K : Int) * 64 + (I : Int) := ⟨(p / 64).toNat, (p % 64).toNat, by omega, by omega, by omega⟩
  subst hpe
  have hdiv : ((K : Int) * 64 + (I : Int)) / 64 = (K : Int) := by omega
  obtain ⟨x, rfl, hx, hcx⟩ := HM.out.1 K hK
  simp only at hcx
  cases hpk : P K with
  | none =>
    rw [hpk] at hcx
    clear hpk
    go_wp2
    go_ret
    exact ⟨rfl, Below.refl _ _⟩
  | some y0 =>
    rw [hpk] at hcx
    have HPK : Hid (P K = some y0) := hpk
    clear hpk
    go_wp2_with fail
    have hsub : (K : Int) * 64 + (I : Int) - (K : Int) * 64 = (I : Int) := by omega
    rw [hdiv, hsub]
    clear hdiv hsub hcx hx hr0 hr1
    refine (cloneBlocks (some x) n c P L Z w HM.out hn HS.out).mono ?_
    rintro e w1 ⟨a1, c1, P', rfl, htw, hb1⟩
    have hPK' : P' K ≠ none := (htw.2 K hK).2.1 (by rw [HPK.out]; simp)
    have hLs : Hid (∀ i, i < 64 → L K i ≤ 131072) := HS.out K hK (by rw [HPK.out]; simp)
    obtain ⟨y, hy⟩ := Option.ne_none_iff_exists'.1 hPK'
    obtain ⟨⟨_, hpl, hyz⟩, A, C, hA1, hA2⟩ := (htw.2 K hK).2.2 y hy
    obtain ⟨gy, hgy⟩ : ∃ gy, gy = y.block := ⟨_, rfl⟩
    rw [← hgy] at hyz hpl
    subst hyz
    have HTW : Hid (Twins w1 a1 n P P' L Z) := htw
    have HY : Hid (P' K = some ⟨gy, 0, none⟩) := hy
    have HPL : Hid (Plain w1 gy) := hpl
    have HA1 : Hid (Shows w1 (some ⟨gy, 0, none⟩) 64 (fun i => .slice (A i) (L K i) (C i))) := hA1
    have HA2 : Hid (∀ i, i < 64 → Shows w1 (A i) (L K i) (fun j => .int .i64 (Z K i j))) := fun i hi => (hA2 i hi).1
    have HB1 : Hid (Below w.heap.size w w1) := hb1
    clear htw hPK' hy hpl hA1 hA2 hgy hb1
    obtain ⟨i0, hi, hz0, hz1, hz2⟩ := info_parts Try.info30
    go_wp2_with (at_make; refine wpList_make_full _ rfl _ _ 22 rfl w1.heap.size 30 i0 (.pointer none) 1 Try.underlying22 hi hz0 hz1 _ _ _ _ n rfl rfl rfl rfl ?b1 ?b2 ?b3 ?_)
    case b1 => rw [hz2]; omega
    case b2 => unfold maxLen; omega
    case b3 => exact Nat.le_refl _
    intro w1a hown hgrow
    have ho := own_made hown
    have hb : Below w1.heap.size w1 w1a := (Below.refl _ _).grown hgrow (Nat.le_refl _) (fun _ h => by cases h)
    clear hown hgrow hi hz0 hz1 hz2
    go_wp2
    go_loopw [12] (fun i wr => ∃ q : Nat, q ≤ n ∧ i = .int .i64 q ∧ Own wr w1.heap.size n (fun r => if r < q then .pointer (P' r) else .pointer none) ∧ Below w1.heap.size w1 wr) (fun i _ => n - (intOf i).toNat)
    case atStart => exact ⟨0, Nat.zero_le _, rfl, ho.congr (fun i _ => by simp), hb⟩
    case round =>
      obtain ⟨q, hq, rfl, hor, hbr⟩ := hrel
      clear ho hb
      by_cases hlt : q < n
      · obtain ⟨xa, rfl, hxa, hca⟩ := HTW.out.1 q hlt
        have hcx : wr.cell? (xa.add q) = some (.pointer (P' q)) := by rw [hbr.cell (by rw [add_block]; exact hxa)]; exact hca
        have hc1 := (hor.2 q hlt).1
        have hc2 := (hor.2 q hlt).2
        simp only [if_neg (Nat.lt_irrefl q)] at hc1
        have HST : Hid (Own (wr.setCell ⟨w1.heap.size, q, none⟩ (.pointer (P' q))) w1.heap.size n (fun r => if r < q + 1 then .pointer (P' r) else .pointer none)) := step_fun (f := fun r => .pointer (P' r)) hor hlt
        clear hor hca hxa
        go_wp2
        go_roundw
        case rel => exact ⟨q + 1, by omega, by go_num, HST.out, hbr.setCell (Nat.le_refl _) _⟩
        case measure => simp [intOf]; omega
      · have he : q = n := by omega
        subst he
        obtain ⟨w2, rfl⟩ : ∃ w2, w2 = wr := ⟨wr, rfl⟩
        have HO1 : Hid (Own w2 w1.heap.size q (fun r => .pointer (P' r))) := hor.congr (fun i hi => by simp [hi])
        have HB2 : Hid (Below w1.heap.size w1 w2) := hbr
        obtain ⟨xa, rfl, hxa, hca⟩ := HTW.out.1 K hK
        simp only at hca
        have hcx : w2.cell? (xa.add K) = some (.pointer (some ⟨gy, 0, none⟩)) := by rw [hbr.cell (by rw [add_block]; exact hxa), hca, HY.out]
        obtain ⟨cs, t0, hh, hcs⟩ := HPL.out.below hbr (Nat.le_refl _)
        have hcsi : Hid (∀ i, i < 64 → cs[i]? = some (.slice (A i) (L K i) (C i))) := cells_of HA1.out hbr hh
        have hone : cs.all (·.oneCell') = true := ones_of hcs hcsi.out
        have hi33 : (Try.prog.info? 33).map (·.size) = some cs.size := by rw [hcs]; exact Try.info33
        clear hor hca hxa hbr
        obtain ⟨j0, hj, hy0, hy1, hy2⟩ := info_parts Try.info3
        have hlI := hLs.out I hI
        obtain ⟨aI, haI⟩ : ∃ aI, A I = aI := ⟨_, rfl⟩
        have HAI : Hid (A I = aI) := haI
        have hsI := HA2.out I hI
        rw [haI] at hsI
        have HSI : Hid (Shows w1 aI (L K I) (fun j => .int .i64 (Z K I j))) := hsI
        clear haI hsI
        go_wp2_with (first | (show wpList _ _ _ (⟨_, Op.load 33 _, _, _, _, none⟩ :: _) _ _; refine wpList_load_row rfl 33 _ rfl gy rfl t0 cs (0, 0) _ hh Try.underlying33 rfl hi33 ?_) | (show wpList _ _ _ (⟨_, Op.store 33 _ _, _, _, _, none⟩ :: _) _ _; refine wpList_store_laid (wr := w2) rfl 33 _ _ rfl _ cs 33 (fun i => .slice (A i) (L K i) (C i)) rfl rfl hi33 (by rw [hcs]; rfl) hone hcs hcsi.out ?_; intro w3 hO3 hP3 hB3; have hcI : w3.cell? ⟨w2.heap.size, I, none⟩ = some (.slice aI (L K I) (C I)) := (by rw [← HAI.out]; exact (hO3.2 I hI).1)) | (at_make; refine wpList_make_full _ rfl _ _ 28 rfl w3.heap.size 3 j0 (.int .i64 0) 1 Try.underlying28 hj hy0 hy1 _ _ _ _ (L K I + 1) rfl rfl (by omega) (by omega) ?d1 ?d2 ?d3 ?_))
        case d1 => rw [hy2]; omega
        case d2 => unfold maxLen; omega
        case d3 => exact Nat.le_refl _
        intro w4 hown hgrow
        have ho4 := own_made hown
        have hb4 : Below w3.heap.size w3 w4 := (Below.refl _ _).grown hgrow (Nat.le_refl _) (fun _ h => by cases h)
        have HO3 : Hid (Own w3 w2.heap.size 64 (fun i => .slice (A i) (L K i) (C i))) := hO3
        have HP3 : Hid (Plain w3 w2.heap.size) := hP3
        have HB3 : Hid (Below w2.heap.size w2 w3) := hB3
        clear hown hgrow hj hy0 hy1 hy2 hO3 hP3 hB3 hcI hh hone hi33 hcsi hcs hcx
        go_wp2
        go_loopw [16] (fun i ws => ∃ s : Nat, s ≤ L K I ∧ i = .int .i64 s ∧ Own ws w3.heap.size (L K I + 1) (fun j => if j < s then .int .i64 (Z K I j) else .int .i64 0) ∧ Below w3.heap.size w3 ws) (fun i _ => L K I - (intOf i).toNat)
        case atStart => exact ⟨0, Nat.zero_le _, rfl, ho4.congr (fun i _ => by simp), hb4⟩
        case round =>
          obtain ⟨s, hs, rfl, hor, hbr⟩ := hrel
          clear ho4 hb4
          by_cases hlt2 : s < L K I
          · obtain ⟨xr, rfl, hxr, hcr⟩ := HSI.out s hlt2
            have hlt3 : Below w1.heap.size w1 w3 := HB2.out.trans (HB3.out.mono HB2.out.size)
            have hcr' : wr.cell? (xr.add s) = some (.int .i64 (Z K I s)) := by
              rw [hbr.cell (by rw [add_block]; have := hlt3.size; omega), hlt3.cell (by rw [add_block]; exact hxr)]
              exact hcr
            have hc1 := (hor.2 s (by omega)).1
            have hc2 := (hor.2 s (by omega)).2
            simp only [if_neg (Nat.lt_irrefl s)] at hc1
            have HST : Hid (Own (wr.setCell ⟨w3.heap.size, s, none⟩ (.int .i64 (Z K I s))) w3.heap.size (L K I + 1) (fun j => if j < s + 1 then .int .i64 (Z K I j) else .int .i64 0)) := step_int hor (by omega)
            clear hor hcr hxr hlt3
            go_wp2
            go_roundw
            case rel => exact ⟨s + 1, by omega, by go_num, HST.out, hbr.setCell (Nat.le_refl _) _⟩
            case measure => simp [intOf]; omega
          · have he2 : s = L K I := by omega
            subst he2
            have hb2 := HB2.out
            have hb3 := HB3.out
            have hlaid : Laid w1 wr (some xa) q P P' L Z K I ⟨gy, 0, none⟩ A C w1.heap.size w2.heap.size w3.heap.size :=
              { twins := HTW.out, old := HY.out, rows := HA2.out,
                below := hb2.trans ((hb3.mono hb2.size).trans (hbr.mono (Nat.le_trans hb2.size hb3.size))),
                own1 := (HO1.out.below hb3 HO1.out.1).below hbr (Nat.lt_of_lt_of_le HO1.out.1 hb3.size),
                own2 := HO3.out.below hbr HO3.out.1,
                plain2 := HP3.out.below hbr (Nat.le_refl _),
                own3 := hor,
                lt1 := Nat.le_refl _, lt2 := HO1.out.1, lt3 := HO3.out.1 }
            have HLAID : Hid (Laid w1 wr (some xa) q P P' L Z K I ⟨gy, 0, none⟩ A C w1.heap.size w2.heap.size w3.heap.size) := hlaid
            have o1 := hlaid.own1.2 K hK
            have o2 := hlaid.own2.2 I hI
            have o3 := hlaid.own3.2 (L K I) (by omega)
            have q1 := o1.1
            have q2 := o2.1
            have q3 := o3.1
            have f1 := o1.2
            have f2 := o2.2
            have f3 := o3.2
            have ne12 : w2.heap.size ≠ w1.heap.size := by have := hlaid.lt2; omega
            have ne23 : w3.heap.size ≠ w2.heap.size := by have := hlaid.lt3; omega
            have ne13 : w3.heap.size ≠ w1.heap.size := by have := hlaid.lt2; have := hlaid.lt3; omega
            clear o1 o2 o3 hb2 hb3 hor hlaid hbr
            go_wp2_with fail
            refine (differ_one an c1 q v HLAID.out hK hI hn HS.out).mono ?_
            rintro e w9 ⟨hints, hb9⟩
            obtain ⟨y1, cap1, rfl, hy1, hc1⟩ := ints_one hints
            have HB9 : Hid (Below (last wr L K I w1.heap.size w2.heap.size w3.heap.size v).heap.size (last wr L K I w1.heap.size w2.heap.size w3.heap.size v) w9) := hb9
            clear hints hb9 q1 q2 q3 f1 f2 f3 ne12 ne23 ne13
            go_wp2_with fail
            refine (differ_one' an c1 q v w9 HB9.out HLAID.out hK hI hn HS.out (by rw [HPK.out]; simp)).mono ?_
            rintro e w10 ⟨hints, hb10⟩
            obtain ⟨y2, cap2, rfl, hy2, hc2⟩ := ints_one hints
            have hc1' : w10.cell? y1 = some (.int .i64 ((K : Int) * 64 + (I : Int))) := by rw [hb10.cell hy1]; exact hc1
            have HEND : Hid (Below w.heap.size w w10) := HB1.out.trans ((HLAID.out.belowLast v).mono HB1.out.size |>.trans ((HB9.out.mono (Nat.le_trans HB1.out.size (HLAID.out.belowLast v).size)).trans (hb10.mono (Nat.le_trans HB1.out.size (Nat.le_trans (HLAID.out.belowLast v).size HB9.out.size)))))
            clear hints hb10 hc1 hy1 hy2
            go_wp2
            go_ret
            exact ⟨rfl, HEND.out⟩
end Go.Proofs.Qxb6606129a
