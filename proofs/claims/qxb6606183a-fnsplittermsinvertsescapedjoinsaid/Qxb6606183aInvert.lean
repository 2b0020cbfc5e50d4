/-
  THE WALK of FnSplitTermsInvertsEscapedJoin.
-/
import Derived.Test.Qxb6606183aJoin
import Derived.Test.Qxb6606183aEq
namespace Go.Proofs.Qxb6606183a
open Go.RowKit

theorem cell_one_set (w : World) (a : Addr) (v x : Value) (t : TypeId) : ∀ j u, [x][j]? = some u → ((w.setCell a v).alloc (.cells #[x] t)).cell? ((⟨w.heap.size, 0, none⟩ : Addr).add j) = some u := by
  have h := cell_one_new (w.setCell a v) x t
  have e : (w.setCell a v).heap.size = w.heap.size := by simp [World.setCell]
  rw [e] at h
  exact h

/-- What the loop keeps: the escaped terms so far, the joined bytes so far. -/
def Mid (f : Nat → ByteArray) (w wr : World) (n B k : Nat) (v : Value) : Prop :=
  Own wr w.heap.size n (escd f k) ∧ HoldsB wr B v (joinTo f k) ∧ Below w.heap.size w wr ∧ B ≤ wr.heap.size

set_option maxHeartbeats 2000000 in
theorem law_some (x : Addr) (n c : Nat) (f : Nat → ByteArray) (w : World) (hn0 : 0 < n) (h1 : Shows w (some x) n (fun i => .string (f i))) :
    Calls Try.prog 4 #[.slice (some x) n c] w fun e w' => e = .returned (.bool true) ∧ Below w.heap.size w w' := by
  obtain ⟨i9, hi9, hz90, hz91, hz92⟩ := info_parts Try.info9
  obtain ⟨i0, hi, hz0, hz1, hz2⟩ := info_parts Try.info5
  have H1 : Hid (Shows w (some x) n (fun i => .string (f i))) := h1
  clear h1
  go_enter Try.func4, Try.ntmps4
  go_wp2_with fail
  refine (bytesJ n c (some x) f w H1.out).mono ?_
  rintro e w' ⟨b, rfl, rfl⟩
  cases b with
  | false =>
    go_wp2
    go_ret
    exact ⟨rfl, Below.refl _ _⟩
  | true =>
    go_wp2_with fail
    refine (spend n c (some x) f w H1.out).mono ?_
    rintro e w' ⟨r, rfl, rfl, hr⟩
    rcases hr with rfl | ⟨hr, hn, hsum, hsz⟩
    · go_wp2
      go_ret
      exact ⟨rfl, Below.refl _ _⟩
    · have HSZ : Hid (∀ k, k < n → (f k).size ≤ 1048576) := hsz
      have HSUM : Hid (sumTo f n ≤ 1048576) := hsum
      clear hsz hsum
      have hne : ((n : Int) == 0) = false := beq_eq_false_iff_ne.2 (by omega)
      have hneg : ¬ r < 0 := by omega
      go_wp2_with (at_make; refine wpList_make_full _ rfl _ _ 24 rfl w.heap.size 9 i9 (.string ByteArray.empty) 1 Try.underlying24 hi9 hz90 hz91 _ _ _ _ n rfl rfl rfl rfl (by rw [hz92]; omega) (by unfold maxLen; omega) (Nat.le_refl _) ?_)
      intro w1 hown hgrow
      have ho := own_made hown
      have hb : Below w.heap.size w w1 := (Below.refl _ _).grown hgrow (Nat.le_refl _) (fun _ h => by cases h)
      obtain ⟨B, HB⟩ : ∃ B, Hid (B = w1.heap.size) := ⟨_, rfl⟩
      have hgB : w.heap.size < B := by rw [HB.out]; exact ho.1
      have HM0 : Hid (Mid f w w1 n B 0 (.slice none 0 0)) := ⟨ho.congr (fun i _ => by simp [escd]), World.ownsRow_nil _ _ _ _, hb, Nat.le_of_eq HB.out⟩
      clear hown hgrow ho hb
      go_wp2
      go_loopw [4, 5] (fun v i wr => ∃ k : Nat, k ≤ n ∧ i = .int .i64 k ∧ Mid f w wr n B k v) (fun _ i _ => n - (intOf i).toNat)
      case atStart => exact ⟨0, Nat.zero_le _, rfl, HM0.out⟩
      case round =>
        obtain ⟨k, hk, rfl, hmid⟩ := hrel
        clear HM0
        obtain ⟨ho, hj, hb, hB⟩ := hmid
        by_cases hlt : k < n
        · have hcx : wr.cell? (x.add k) = some (.string (f k)) := by
            have h2 := H1.out.some k hlt
            rw [hb.cell (by rw [add_block]; exact h2.1)]
            exact h2.2
          have hfk := HSZ.out k hlt
          have hjl := joinTo_le f (Nat.le_of_lt hlt) hn HSUM.out
          have HO : Hid (Own wr w.heap.size n (escd f k)) := ho
          have HJ : Hid (HoldsB wr B u4 (joinTo f k)) := hj
          have HBl : Hid (Below w.heap.size w wr) := hb
          clear ho hj hb
          have hes := escB_size (f k)
          go_wp2_with fail
          refine (escape_walk (f k) wr hfk).mono ?_
          rintro e w2 ⟨rfl, hb2⟩
          have HO2 : Hid (Own w2 w.heap.size n (escd f k)) := HO.out.below hb2 HO.out.1
          have HJ2 : Hid (HoldsB w2 B u4 (joinTo f k)) := HJ.out.below hb2
          have HB2 : Hid (Below w.heap.size w w2) := HBl.out.trans (hb2.mono HBl.out.size)
          have hB2 : B ≤ w2.heap.size := Nat.le_trans hB hb2.size
          clear hb2 HO HJ HBl hcx
          have hc1 : w2.cell? ⟨w.heap.size, k, none⟩ = some (.string ByteArray.empty) := by rw [← escd_new f k]; exact (HO2.out.2 k hlt).1
          have hc2 := (HO2.out.2 k hlt).2
          have HO3 : Hid (Own (w2.setCell ⟨w.heap.size, k, none⟩ (.string (escB (f k)))) w.heap.size n (escd f (k + 1))) := escd_step HO2.out hlt
          have HJ3 : Hid (HoldsB (w2.setCell ⟨w.heap.size, k, none⟩ (.string (escB (f k)))) B u4 (joinTo f k)) := ownsRow_setCell_below HJ2.out hgB _
          have HB3 : Hid (Below w.heap.size w (w2.setCell ⟨w.heap.size, k, none⟩ (.string (escB (f k))))) := HB2.out.setCell (Nat.le_refl _) _
          have HS3 : Hid (B ≤ (w2.setCell ⟨w.heap.size, k, none⟩ (.string (escB (f k)))).heap.size) := by show B ≤ _; simpa [World.setCell] using hB2
          have hc3 : (w2.setCell ⟨w.heap.size, k, none⟩ (.string (escB (f k)))).cell? ⟨w.heap.size, k, none⟩ = some (.string (escB (f k))) := (HO3.out.2 k hlt).1.trans (by rw [escd_at])
          have HO5 : ∀ w', Below B (w2.setCell ⟨w.heap.size, k, none⟩ (.string (escB (f k)))) w' → Hid (Own w' w.heap.size n (escd f (k + 1)) ∧ Below w.heap.size w w') := fun w' h => ⟨HO3.out.below h hgB, HB3.out.trans (h.mono (Nat.le_of_lt hgB))⟩
          have HO6 : Hid (∀ w', Below B (w2.setCell ⟨w.heap.size, k, none⟩ (.string (escB (f k)))) w' → Hid (Own w' w.heap.size n (escd f (k + 1)) ∧ Below w.heap.size w w')) := HO5
          clear HO5
          have HEL : Hid (toL (escB (f k)) = escL (toL (f k))) := toL_escB _
          by_cases hk0 : k = 0
          · have hgt : ¬ (0 < (k : Int)) := by omega
            have HJ4 : Hid (HoldsB (w2.setCell ⟨w.heap.size, k, none⟩ (.string (escB (f k)))) B u4 []) := by
              have := HJ3.out
              rw [show joinTo f k = [] by rw [hk0]; rfl] at this
              exact this
            have HJN : Hid (joinTo f (k + 1) = [] ++ toL (escB (f k))) := by show joinTo f (k + 1) = _; rw [toL_escB]; simp only [joinTo, if_pos hk0]
            clear HO2 HJ2 HB2 HO3 HJ3 HB3 hk0
            generalize hE : escB (f k) = E at *
            clear hE
            go_wp2_with (at_builtin; refine Lib.wpList_append_own_string _ rfl _ _ 28 9 rfl B 5 i0 Try.underlying28 Try.underlying9 hi hz0 hz1 hz2 _ _ _ rfl HJ4.out E rfl (by simp only [List.length_nil]; unfold maxLen; omega) (by simp only [List.length_nil]; omega) HS3.out ?_)
            intro v' w4 hown' hgrow _
            have HP := HJ4.out.more (s := E) HS3.out (by rw [List.length_nil, Nat.zero_add]; exact hown') hgrow
            have HR : Hid (Mid f w w4 n B (k + 1) v') := ⟨(HO6.out w4 HP.2).out.1, by rw [HJN.out]; exact HP.1, (HO6.out w4 HP.2).out.2, Nat.le_trans HS3.out HP.2.size⟩
            clear hown' hgrow HP HJ4 HO6 HS3
            go_wp2
            go_roundw
            case rel => exact ⟨k + 1, by omega, by go_num, HR.out⟩
            case measure => simp [intOf]; omega
          · have hgt : 0 < (k : Int) := by omega
            have HJN : Hid (joinTo f (k + 1) = joinTo f k ++ [44] ++ toL (escB (f k))) := by show joinTo f (k + 1) = _; rw [toL_escB]; simp only [joinTo, if_neg hk0]
            generalize hE : escB (f k) = E at *
            generalize hJJ : joinTo f k = JJ at *
            clear hE hJJ
            go_wp2_with (at_builtin; refine wpList_append_own _ rfl _ _ 28 rfl B 5 i0 (.int .u8 0) 1 1 Try.underlying28 hi hz0 hz1 hz2 rfl (by decide) _ _ _ rfl (HJ3.out.alloc _) ⟨w2.heap.size, 0, none⟩ 1 1 [.int .u8 44] rfl rfl (cell_one_set _ _ _ _ _) (one_byte _) (by unfold maxLen; omega) (by omega) (by have := HS3.out; simp; omega) ?_)
            intro v5 w4 hown' hgrow _
            have HP := HoldsB.push (c := 44) HJ3.out HB3.out (Nat.le_of_lt hgB) HS3.out hown' hgrow
            have HJ5 : Hid (HoldsB w4 B v5 (JJ ++ [44])) := HP.1
            have HB5 : Hid (Below B (w2.setCell ⟨w.heap.size, k, none⟩ (.string E)) w4) := HP.2.2
            have HS5 : Hid (B ≤ w4.heap.size) := Nat.le_trans HS3.out HP.2.2.size
            have hc5 : w4.cell? ⟨w.heap.size, k, none⟩ = some (.string E) := by rw [HP.2.2.cell (by exact hgB)]; exact hc3
            have hl5 : (JJ ++ [44]).length ≤ 2228225 := by simp; omega
            clear hown' hgrow HP HJ3 HJ2 HO3 HO2 HB2 HB3 hc3 hc1 hc2
            generalize hJ5 : JJ ++ [44] = J5 at HJ5 hl5 HJN
            clear hJ5
            go_wp2_with (at_builtin; refine Lib.wpList_append_own_string _ rfl _ _ 28 9 rfl B 5 i0 Try.underlying28 Try.underlying9 hi hz0 hz1 hz2 _ _ _ rfl HJ5.out E rfl (by unfold maxLen; omega) (by omega) HS5.out ?_)
            intro v' w6 hown' hgrow _
            have HP := HJ5.out.more (s := E) HS5.out hown' hgrow
            have HX : Hid (Own w6 w.heap.size n (escd f (k + 1)) ∧ Below w.heap.size w w6) := HO6.out w6 (HB5.out.trans HP.2)
            have HR : Hid (Mid f w w6 n B (k + 1) v') := ⟨HX.out.1, by rw [HJN.out]; exact HP.1, HX.out.2, Nat.le_trans HS5.out HP.2.size⟩
            clear hown' hgrow HP HO6 HS3 HX HJ5 HB5 HS5
            go_wp2
            go_roundw
            case rel => exact ⟨k + 1, by omega, by go_num, HR.out⟩
            case measure => simp [intOf]; omega
        · have he : k = n := by omega
          subst he
          have hjl := joinTo_le f (Nat.le_refl k) hn HSUM.out
          have hconv := hj.conv
          have HT : Hid ((terms ⟨(joinTo f k).toArray⟩).length = k ∧ ∀ i, i < k → (terms ⟨(joinTo f k).toArray⟩).getD i ByteArray.empty = escB (f i)) := terms_join f k hn0
          have HSH : Hid (Shows wr (some ⟨w.heap.size, 0, none⟩) k (fun i => .string (escB (f i)))) := (ho.congr (fun i hi => by simp [escd, hi])).shows
          have HBl : Hid (Below w.heap.size w wr) := hb
          clear ho hj hb
          have hSz : (⟨(joinTo f k).toArray⟩ : ByteArray).size ≤ 4194304 := by
            show (joinTo f k).toArray.size ≤ _
            simp
            omega
          generalize (⟨(joinTo f k).toArray⟩ : ByteArray) = S at HT hconv hSz
          clear hjl
          go_wp2_with fail
          refine (zzSplit S wr hSz).mono ?_
          rintro e w2 ⟨⟨a2, c2, rfl, hs2⟩, hb2⟩
          have HA : Hid (Shows w2 a2 k (fun i => .string (escB (f i)))) := by
            have h := hs2
            rw [HT.out.1] at h
            exact h.congr (fun i hi => by simp only [HT.out.2 i hi])
          have HC : Hid (Shows w2 (some ⟨w.heap.size, 0, none⟩) k (fun i => .string (escB (f i)))) := HSH.out.below hb2 (Nat.le_refl _)
          have HB2 : Hid (Below w.heap.size w w2) := HBl.out.trans (hb2.mono HBl.out.size)
          rw [HT.out.1]
          clear hs2 hb2 HSH HBl hconv
          go_wp2_with fail
          refine (strsEq a2 (some ⟨w.heap.size, 0, none⟩) k c2 k (fun i => escB (f i)) w2 (by omega) HA.out HC.out).mono ?_
          rintro e w3 ⟨rfl, m, rfl⟩
          go_wp2
          go_ret
          exact ⟨rfl, below_drewN HB2.out m⟩

set_option maxRecDepth 100000 in
theorem law_none (c : Nat) (a : Option Addr) (f : Nat → ByteArray) (w : World) (h1 : Shows w a 0 (fun i => .string (f i))) :
    Calls Try.prog 4 #[.slice a 0 c] w fun e w' => e = .returned (.bool true) ∧ Below w.heap.size w w' := by
  have H1 : Hid (Shows w a 0 (fun i => .string (f i))) := h1
  clear h1
  go_enter Try.func4, Try.ntmps4
  go_wp2_with fail
  refine (bytesJ 0 c a f w H1.out).mono ?_
  rintro e w' ⟨b, rfl, rfl⟩
  cases b with
  | false =>
    go_wp2
    go_ret
    exact ⟨rfl, Below.refl _ _⟩
  | true =>
    go_wp2_with fail
    refine (spend 0 c a f w H1.out).mono ?_
    rintro e w' ⟨r, rfl, rfl, hr⟩
    have hr2 : r = -1 ∨ 0 ≤ r := hr.elim Or.inl (fun h => Or.inr h.1)
    clear hr
    rcases hr2 with rfl | hr
    · go_wp2
      go_ret
      exact ⟨rfl, Below.refl _ _⟩
    · have hneg : ¬ r < 0 := by omega
      go_wp2
      go_ret
      exact ⟨rfl, Below.refl _ _⟩

theorem law_invert (n c : Nat) (a : Option Addr) (f : Nat → ByteArray) (w : World) (h1 : Shows w a n (fun i => .string (f i))) :
    Calls Try.prog 4 #[.slice a n c] w fun e w' => e = .returned (.bool true) ∧ Below w.heap.size w w' := by
  by_cases h0 : n = 0
  · subst h0
    exact law_none c a f w h1
  · cases a with
    | none => exact absurd h1.none h0
    | some x => exact law_some x n c f w (by omega) h1
end Go.Proofs.Qxb6606183a
