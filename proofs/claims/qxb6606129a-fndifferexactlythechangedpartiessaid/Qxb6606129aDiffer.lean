/-
  THE WALKS of differ and ZZDiffer.
-/
import Derived.Test.Qxb6606129aCloneBlock
import Derived.LaidEqlPtr
import Derived.Test.Qxb6606129aEqual
namespace Go.Proofs.Qxb6606129a
open Go.RowKit

/-- Block k's changed parties among its first i. -/
def inBlk (d : Nat → Nat → Bool) (k : Nat) : Nat → List Int
  | 0 => []
  | i + 1 => inBlk d k i ++ if d k i = true then [(k : Int) * 64 + (i : Int)] else []
/-- All changed parties of the first k blocks. -/
def upTo (d : Nat → Nat → Bool) : Nat → List Int
  | 0 => []
  | k + 1 => upTo d k ++ inBlk d k 64

theorem inBlk_le (d : Nat → Nat → Bool) (k : Nat) : ∀ i, (inBlk d k i).length ≤ i
  | 0 => Nat.le_refl _
  | i + 1 => by
    have := inBlk_le d k i
    show (inBlk d k i ++ _).length ≤ _
    rw [List.length_append]
    split
    · simp; omega
    · simp; omega
theorem upTo_le (d : Nat → Nat → Bool) : ∀ k, (upTo d k).length ≤ k * 64
  | 0 => Nat.le_refl _
  | k + 1 => by
    have := upTo_le d k
    have := inBlk_le d k 64
    show (upTo d k ++ inBlk d k 64).length ≤ _
    rw [List.length_append]
    omega

/-- A list in new memory, nil where it is empty. -/
def Holds (w : World) (base : Nat) (v : Value) (xs : List Int) : Prop :=
  w.ownsRow base 3 1 v xs.length (xs.map (Value.int .i64)) ∧ (xs = [] → v = .slice none 0 0)

/-- Do the lists of party i of block k differ, the blocks being two? -/
def dif (Pa Pb : Nat → Option Addr) (La Lb : Nat → Nat → Nat) (Za Zb : Nat → Nat → Nat → Int) (k i : Nat) : Bool :=
  decide (Pa k ≠ Pb k) && !eqL (La k i) (Za k i) (Lb k i) (Zb k i)

/-- What holds at every round's head: the list in new memory, b's box, old memory as it was. -/
def Inv (w : World) (ab : Option Addr) (nb cb : Nat) (wr : World) (v : Value) (xs : List Int) : Prop :=
  Holds wr (w.heap.size + 2) v xs ∧ wr.cell? ⟨w.heap.size + 1, 0, none⟩ = some (.slice ab nb cb) ∧ w.heap.size + 2 ≤ wr.heap.size ∧ Below w.heap.size w wr

theorem Inv.drewN {w wr : World} {ab : Option Addr} {nb cb : Nat} {v : Value} {xs : List Int} (h : Inv w ab nb cb wr v xs) (n : Nat) : Inv w ab nb cb (wr.drewN n) v xs :=
  ⟨h.1, h.2.1, h.2.2.1, below_drewN h.2.2.2 n⟩

theorem Inv.push {w wr w1 : World} {ab : Option Addr} {nb cb : Nat} {v v' : Value} {xs : List Int} {x : Int} {o : Obj} (h : Inv w ab nb cb wr v xs)
    (hown : w1.ownsRow (w.heap.size + 2) 3 1 v' (xs.length + 1) (xs.map (Value.int .i64) ++ [.int .i64 x])) (hg : (wr.alloc o).grownBy w1 v.ownBlock) : Inv w ab nb cb w1 v' (xs ++ [x]) := by
  obtain ⟨⟨h1, h2⟩, h3, h4, h5⟩ := h
  have hne : ∀ j, j < w.heap.size + 2 → some j ≠ v.ownBlock := fun j hj h => by have := h1.lt j h.symm; omega
  have hsz := hg.size
  simp at hsz
  refine ⟨⟨by simpa using hown, fun c => by simp at c⟩, hg.cell ((World.cell?_alloc_past _ _ _ (by omega)).trans h3) (hne _ (by simp)), by omega,
    (h5.alloc (by omega) o).grown hg (by simp; omega) (fun j hj => by have := (h1.lt j hj).1; omega)⟩

/-- Two pointers, neither nil, to two plain blocks. -/
def Apart (w : World) (p q : Option Addr) : Prop := ∃ y z, p = some y ∧ q = some z ∧ y ≠ z ∧ Plain w y.block ∧ Plain w z.block

theorem Try.info33 : (Try.prog.info? 33).map (fun i => i.size) = some 64 := by kernel_rfl

theorem inBlk_same {Pa Pb : Nat → Option Addr} {La Lb : Nat → Nat → Nat} {Za Zb : Nat → Nat → Nat → Int} {k : Nat} (h : Pa k = Pb k) : ∀ i, inBlk (dif Pa Pb La Lb Za Zb) k i = []
  | 0 => rfl
  | i + 1 => by
    show inBlk (dif Pa Pb La Lb Za Zb) k i ++ _ = _
    rw [inBlk_same h i]
    simp [dif, h]

theorem Shows.drewN {w : World} {a : Option Addr} {n : Nat} {f : Nat → Value} (h : Shows w a n f) (m : Nat) : Shows (w.drewN m) a n f := h

set_option maxHeartbeats 1000000 in
theorem differ_walk (an bn : Int) (na ca nb cb : Nat) (aa ab : Option Addr) (Pa Pb : Nat → Option Addr) (La Lb : Nat → Nat → Nat) (Za Zb : Nat → Nat → Nat → Int) (w : World)
    (hA : Blocks w aa na Pa La Za) (hB : Blocks w ab nb Pb Lb Zb) (hn : na ≤ nb) (hna : na ≤ 131072)
    (hd : ∀ k, k < na → Pa k = Pb k ∨ Apart w (Pa k) (Pb k)) (hL : ∀ k, k < na → Pa k ≠ none → ∀ i, i < 64 → La k i ≤ 1048577) :
    Calls Try.prog 22 #[.agg #[.slice aa na ca, .int .i64 an], .agg #[.slice ab nb cb, .int .i64 bn]] w fun e w' => ∃ v base, e = .returned v ∧ Holds w' base v (upTo (dif Pa Pb La Lb Za Zb) na) ∧ Below w.heap.size w w' := by
  obtain ⟨hA1, hA2⟩ := hA
  obtain ⟨hB1, hB2⟩ := hB
  have HA2 : Hid (∀ k, k < na → ∀ y, Pa k = some y → Block w y (La k) (Za k)) := hA2
  have HB2 : Hid (∀ k, k < nb → ∀ y, Pb k = some y → Block w y (Lb k) (Zb k)) := hB2
  have HD : Hid (∀ k, k < na → Pa k = Pb k ∨ Apart w (Pa k) (Pb k)) := hd
  have HL : Hid (∀ k, k < na → Pa k ≠ none → ∀ i, i < 64 → La k i ≤ 1048577) := hL
  clear hA2 hB2 hd hL
  go_enter Try.func22, Try.ntmps22
  go_wp2
  go_loopw [5, 12] (fun v i wr => ∃ k : Nat, k ≤ na ∧ i = .int .i64 k ∧ Inv w ab nb cb wr v (upTo (dif Pa Pb La Lb Za Zb) k)) (fun _ i _ => na - (intOf i).toNat)
  case atStart => exact ⟨0, Nat.zero_le _, rfl, ⟨World.ownsRow_nil _ _ _ _, fun _ => rfl⟩, by simp, by simp, ((Below.refl _ _).alloc (Nat.le_refl _) _).alloc (by simp) _⟩
  case round =>
    obtain ⟨k, hk, rfl, hinv⟩ := hrel
    by_cases hlt : k < na
    · have hbel : Below w.heap.size w wr := hinv.2.2.2
      have hbox := hinv.2.1
      obtain ⟨xa, rfl, hxa, hca⟩ := hA1 k hlt
      obtain ⟨xb, rfl, hxb, hcb⟩ := hB1 k (by omega)
      have hca' : wr.cell? (xa.add k) = some (.pointer (Pa k)) := by rw [hbel.cell (by rw [add_block]; exact hxa)]; exact hca
      have hcb' : wr.cell? (xb.add k) = some (.pointer (Pb k)) := by rw [hbel.cell (by rw [add_block]; exact hxb)]; exact hcb
      have hkb : k < nb := by omega
      have hdk := HD.out k hlt
      have hAk := HA2.out k hlt
      have hBk := HB2.out k hkb
      have hLk := HL.out k hlt
      have HCB : Hid (xb.block < w.heap.size ∧ w.cell? (xb.add k) = some (.pointer (Pb k))) := ⟨hxb, hcb⟩
      clear hA1 hB1 hca hcb hxa hxb HD HA2 HB2 HL
      obtain ⟨j33, hj33, hs33⟩ := Option.map_eq_some_iff.1 Try.info33
      by_cases hpe : Pa k = Pb k
      · have hup : upTo (dif Pa Pb La Lb Za Zb) (k + 1) = upTo (dif Pa Pb La Lb Za Zb) k := by show _ ++ inBlk _ k 64 = _; rw [inBlk_same hpe, List.append_nil]
        have HI : Hid (Inv w (some xb) nb cb wr u5 (upTo (dif Pa Pb La Lb Za Zb) (k + 1))) := by rw [hup]; exact hinv
        rw [← hpe] at hcb'
        generalize Pa k = pa at hca' hcb'
        clear hinv hup hpe hdk hAk hBk hLk HCB
        cases pa with
        | none =>
          go_wp2
          go_roundw
          case rel => exact ⟨k + 1, by omega, by go_num, HI.out⟩
          case measure => simp [intOf]; omega
        | some y =>
          have heq := fun w => run_eql_ptr_same (P := Try.prog) w (tp := 30) y Try.underlying30 hj33
          go_wp2
          go_roundw
          case rel => exact ⟨k + 1, by omega, by go_num, HI.out⟩
          case measure => simp [intOf]; omega
      · obtain ⟨y, z, hy, hz, hyz, hpy, hpz⟩ := hdk.resolve_left hpe
        obtain ⟨cy, ty, hhy, _⟩ := hpy.below hbel (Nat.le_refl _)
        obtain ⟨cz, tz, hhz, _⟩ := hpz.below hbel (Nat.le_refl _)
        have heq := run_eql_ptr_other (P := Try.prog) wr (tp := 30) Try.underlying30 hj33 (by omega) hyz hhy hhz
        obtain ⟨Aa, Ca, ga1, ga2⟩ := hAk y hy
        obtain ⟨Ab, Cb, gb1, gb2⟩ := hBk z hz
        have HGA : Hid (∀ i, i < 64 → La k i ≤ 1048577) := hLk (by rw [hy]; simp)
        have HGa1 : Hid (Shows w (some y) 64 (fun i => .slice (Aa i) (La k i) (Ca i))) := ga1
        have HGb1 : Hid (Shows w (some z) 64 (fun i => .slice (Ab i) (Lb k i) (Cb i))) := gb1
        have HGa2 : Hid (∀ i, i < 64 → Shows w (Aa i) (La k i) (fun j => .int .i64 (Za k i j))) := ga2
        have HGb2 : Hid (∀ i, i < 64 → Shows w (Ab i) (Lb k i) (fun j => .int .i64 (Zb k i j))) := gb2
        have HPE : Hid (¬ Pa k = Pb k) := hpe
        rw [hy] at hca'
        rw [hz] at hcb' HCB
        have HINV : Hid (Inv w (some xb) nb cb wr u5 (upTo (dif Pa Pb La Lb Za Zb) k)) := hinv
        clear hpe hdk hAk hBk hLk hpy hpz hhy hhz ga1 ga2 gb1 gb2 hy hz hyz hinv hj33 hs33
        obtain ⟨d, hdd⟩ : ∃ d, d = dif Pa Pb La Lb Za Zb := ⟨_, rfl⟩
        have HDD : Hid (d = dif Pa Pb La Lb Za Zb) := hdd
        rw [← hdd] at HINV
        clear hdd
        go_wp2
        go_loopw [5, 24] (fun v i wr => ∃ q : Nat, q ≤ 64 ∧ i = .int .i64 q ∧ Inv w (some xb) nb cb wr v (upTo d k ++ inBlk d k q)) (fun _ i _ => 64 - (intOf i).toNat)
        case atStart => exact ⟨0, Nat.zero_le _, rfl, by show Inv w (some xb) nb cb wr _ (upTo d k ++ []); rw [List.append_nil]; exact HINV.out⟩
        case round =>
          obtain ⟨q, hq, rfl, hinv⟩ := hrel
          clear hca' hcb' hbel hbox heq HINV
          by_cases hqm : q < 64
          · have hbel : Below w.heap.size w wr := hinv.2.2.2
            have hbox := hinv.2.1
            have hcb' : wr.cell? (xb.add k) = some (.pointer (some z)) := by rw [hbel.cell (by rw [add_block]; exact HCB.out.1)]; exact HCB.out.2
            have hcy : wr.cell? (y.add q) = some (.slice (Aa q) (La k q) (Ca q)) := by rw [hbel.cell (by rw [add_block]; exact (HGa1.out.some q hqm).1)]; exact (HGa1.out.some q hqm).2
            have hcz : wr.cell? (z.add q) = some (.slice (Ab q) (Lb k q) (Cb q)) := by rw [hbel.cell (by rw [add_block]; exact (HGb1.out.some q hqm).1)]; exact (HGb1.out.some q hqm).2
            have hsy := (HGa2.out q hqm).below hbel (Nat.le_refl _)
            have hsz := (HGb2.out q hqm).below hbel (Nat.le_refl _)
            have hbig := HGA.out q hqm
            have hdq : d k q = !eqL (La k q) (Za k q) (Lb k q) (Zb k q) := by rw [HDD.out]; simp [dif, HPE.out]
            have heq : ∀ n, Calls Try.prog 25 #[.slice (Aa q) (La k q) (Ca q), .slice (Ab q) (Lb k q) (Cb q)] (wr.drewN n) fun e w' => e = .returned (.bool (!d k q)) ∧ ∃ m, w' = (wr.drewN n).drewN m := fun n => by
              rw [hdq, Bool.not_not]
              exact equal _ _ _ _ _ _ _ _ _ hbig (hsy.drewN n) (hsz.drewN n)
            clear hsy hsz hbig hdq hbel
            have hnext : inBlk d k (q + 1) = inBlk d k q ++ if d k q = true then [(k : Int) * 64 + (q : Int)] else [] := rfl
            have hlen : (upTo d k ++ inBlk d k q).length ≤ k * 64 + q := by have := upTo_le d k; have := inBlk_le d k q; rw [List.length_append]; omega
            have HEQ : Hid (∀ n, Calls Try.prog 25 #[.slice (Aa q) (La k q) (Ca q), .slice (Ab q) (Lb k q) (Cb q)] (wr.drewN n) fun e w' => e = .returned (.bool (!d k q)) ∧ ∃ m, w' = (wr.drewN n).drewN m) := heq
            have HINV : Hid (Inv w (some xb) nb cb wr u5 (upTo d k ++ inBlk d k q)) := hinv
            clear heq hinv
            generalize Aa q = aq at hcy HEQ
            generalize Ab q = bq at hcz HEQ
            generalize La k q = la at hcy HEQ
            generalize Lb k q = lb at hcz HEQ
            generalize Ca q = cq at hcy HEQ
            generalize Cb q = dq at hcz HEQ
            cases hdk : d k q
            · rw [hdk] at HEQ hnext
              simp only [Bool.not_false] at HEQ
              have HN : Hid (inBlk d k (q + 1) = inBlk d k q) := by show inBlk d k (q + 1) = _; rw [hnext]; simp
              clear hnext hdk hlen
              go_wp2
              go_quiet ((go_at_call 25; refine Calls.quiet_of (HEQ.out _)))
              go_wp2
              go_roundw
              case rel => exact ⟨q + 1, by omega, by go_num, by rw [HN.out]; exact HINV.out.drewN _⟩
              case measure => simp [intOf]; omega
            · rw [hdk] at HEQ hnext
              simp only [Bool.not_true] at HEQ
              have HN : Hid (upTo d k ++ inBlk d k (q + 1) = upTo d k ++ inBlk d k q ++ [(k : Int) * 64 + (q : Int)]) := by show upTo d k ++ inBlk d k (q + 1) = _; rw [hnext]; simp
              clear hnext hdk
              go_wp2
              go_quiet ((go_at_call 25; refine Calls.quiet_of (HEQ.out _)))
              have HIQ : Hid (Inv w (some xb) nb cb (wr.drewN nq) u5 (upTo d k ++ inBlk d k q)) := HINV.out.drewN nq
              clear HINV HEQ hbox hcb' hcy hcz
              generalize wr.drewN nq = wq at HIQ
              generalize upTo d k ++ inBlk d k q = D at HIQ HN hlen
              have hown := HIQ.out.1.1
              obtain ⟨i0, hi, hz0, hz1, hz2⟩ := info_parts Try.info3
              go_wp2_with (at_builtin; refine wpList_append_own _ rfl _ _ 28 rfl (w.heap.size + 2) 3 i0 (.int .i64 0) 1 8 Try.underlying28 hi hz0 hz1 hz2 rfl (by decide) _ _ _ rfl (hown.alloc _) ⟨wq.heap.size, 0, none⟩ 1 1 [.int .i64 ((k : Int) * 64 + (q : Int))] rfl rfl ?c1 ?c2 ?c3 ?c4 ?c5 ?_)
              case c1 =>
                intro j u hj
                match j, hj with
                | 0, hj => simp at hj; subst hj; simp [Addr.add]
              case c2 => intro u hu; simp at hu; subst hu; rfl
              case c3 => unfold maxLen; omega
              case c4 => omega
              case c5 => have := HIQ.out.2.2.1; simp; omega
              intro v' w1 hown' hgrow _
              have HI1 : Hid (Inv w (some xb) nb cb w1 v' (D ++ [(k : Int) * 64 + (q : Int)])) := HIQ.out.push hown' hgrow
              clear hown hown' hgrow HIQ
              go_wp2
              go_roundw
              case rel => exact ⟨q + 1, by omega, by go_num, by rw [HN.out]; exact HI1.out⟩
              case measure => simp [intOf]; omega
          · have hq64 : q = 64 := by omega
            subst hq64
            have HI : Hid (Inv w (some xb) nb cb wr u5 (upTo (dif Pa Pb La Lb Za Zb) (k + 1))) := by rw [HDD.out] at hinv; exact hinv
            clear hinv
            go_wp2
            go_roundw
            case rel => exact ⟨k + 1, by omega, by go_num, HI.out⟩
            case measure => simp [intOf]; omega
    · have he : k = na := by omega
      subst he
      clear hA1 hB1
      go_wp2
      go_ret
      exact ⟨_, _, rfl, hinv.1, hinv.2.2.2⟩

/-- A list of ints, as memory shows it; nil where it is empty. -/
def Ints (w : World) (e : Ending) (xs : List Int) : Prop :=
  ∃ a cap, e = .returned (.slice a xs.length cap) ∧ Shows w a xs.length (fun i => .int .i64 (xs.getD i 0)) ∧ (xs = [] → a = none)

theorem Holds.ints {w : World} {base : Nat} {v : Value} {xs : List Int} (h : Holds w base v xs) : Ints w (.returned v) xs := by
  obtain ⟨⟨_, h1⟩, h2⟩ := h
  rcases h1 with ⟨rfl, hl⟩ | ⟨g, cap, cur, rfl, hg, hh, hc1, hc2, hc3, hc4⟩
  · refine ⟨none, 0, by rw [hl], ?_, fun _ => rfl⟩
    rw [hl]
    exact Shows.zero
  · refine ⟨_, cap, rfl, fun i hi => ⟨_, rfl, (Array.getElem?_eq_some_iff.1 hh).1, ?_⟩, fun c => by have := h2 c; cases this⟩
    have e : (⟨g, 0, none⟩ : Addr).add i = ⟨g, i, none⟩ := by
      unfold Addr.add
      by_cases h0 : i = 0
      · subst h0; rfl
      · rw [if_neg h0]; simp
    rw [e]
    have hcell : w.cell? ⟨g, i, none⟩ = cur[i]? := by simp [World.cell?, hh]
    rw [hcell]
    have h3 : cur.toList[i]? = (xs.map (Value.int .i64))[i]? := by
      rw [← hc4, List.getElem?_take, if_pos (by omega)]
    rw [Array.getElem?_toList] at h3
    rw [h3]
    simp [hi]

theorem zzDiffer (an bn : Int) (na ca nb cb : Nat) (aa ab : Option Addr) (Pa Pb : Nat → Option Addr) (La Lb : Nat → Nat → Nat) (Za Zb : Nat → Nat → Nat → Int) (w : World)
    (hA : Blocks w aa na Pa La Za) (hB : Blocks w ab nb Pb Lb Zb) (hn : na ≤ nb) (hna : na ≤ 131072)
    (hd : ∀ k, k < na → Pa k = Pb k ∨ Apart w (Pa k) (Pb k)) (hL : ∀ k, k < na → Pa k ≠ none → ∀ i, i < 64 → La k i ≤ 1048577) :
    Calls Try.prog 12 #[.slice aa na ca, .int .i64 an, .slice ab nb cb, .int .i64 bn] w fun e w' => Ints w' e (upTo (dif Pa Pb La Lb Za Zb) na) ∧ Below w.heap.size w w' := by
  have H : Hid (Calls Try.prog 22 #[.agg #[.slice aa na ca, .int .i64 an], .agg #[.slice ab nb cb, .int .i64 bn]] w fun e w' => ∃ v base, e = .returned v ∧ Holds w' base v (upTo (dif Pa Pb La Lb Za Zb) na) ∧ Below w.heap.size w w') :=
    differ_walk an bn na ca nb cb aa ab Pa Pb La Lb Za Zb w hA hB hn hna hd hL
  clear hA hB hd hL
  go_enter Try.func12, Try.ntmps12
  go_wp2_with fail
  refine H.out.mono ?_
  rintro e w' ⟨v, base, rfl, hh, hb⟩
  go_wp2
  go_ret
  exact ⟨hh.ints, hb⟩
end Go.Proofs.Qxb6606129a
