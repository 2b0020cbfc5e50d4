/-
  FnDifferReportsTheOneChangedList: the plain part: where one list of one block is longer by one, the changed parties are that one; and what memory shows when the law has laid its copy.
-/
import Derived.Test.Qxb6606129aDiffer
namespace Go.Proofs.Qxb6606129a
open Go.RowKit

theorem inBlk_none {d : Nat → Nat → Bool} {k : Nat} (h : ∀ i, i < 64 → d k i = false) : ∀ i, i ≤ 64 → inBlk d k i = []
  | 0, _ => rfl
  | i + 1, hi => by
    show inBlk d k i ++ _ = _
    rw [inBlk_none h i (by omega), h i (by omega)]
    simp

theorem inBlk_one {d : Nat → Nat → Bool} {k I : Nat} (hI : I < 64) (h : ∀ i, i < 64 → d k i = decide (i = I)) : ∀ i, i ≤ 64 → inBlk d k i = if I < i then [(k : Int) * 64 + (I : Int)] else []
  | 0, _ => by simp [inBlk]
  | i + 1, hi => by
    show inBlk d k i ++ _ = _
    rw [inBlk_one hI h i (by omega), h i (by omega)]
    by_cases e : i = I
    · subst e; simp
    · by_cases l : I < i
      · simp [e, l, show I < i + 1 by omega]
      · simp [e, l, show ¬ I < i + 1 by omega]

theorem upTo_one {d : Nat → Nat → Bool} {K I n : Nat} (hI : I < 64) (h : ∀ k i, k < n → i < 64 → d k i = decide (k = K ∧ i = I)) : ∀ k, k ≤ n → upTo d k = if K < k then [(K : Int) * 64 + (I : Int)] else []
  | 0, _ => by simp [upTo]
  | k + 1, hk => by
    show upTo d k ++ inBlk d k 64 = _
    rw [upTo_one hI h k (by omega)]
    by_cases e : k = K
    · subst e
      rw [inBlk_one hI (fun i hi => by rw [h k i (by omega) hi]; simp) 64 (by omega)]
      simp [hI]
    · rw [inBlk_none (fun i hi => by rw [h k i (by omega) hi]; simp [e]) 64 (by omega)]
      by_cases l : K < k
      · simp [l, show K < k + 1 by omega]
      · simp [l, show ¬ K < k + 1 by omega]

/-- The pointers, lengths and lists of the copy in which list I of block K is longer by one. -/
def oneP (P : Nat → Option Addr) (K : Nat) (y : Addr) : Nat → Option Addr := fun r => if r = K then some y else P r
def oneL (L : Nat → Nat → Nat) (K I : Nat) : Nat → Nat → Nat := fun r i => if r = K ∧ i = I then L K I + 1 else L r i
def oneZ (L : Nat → Nat → Nat) (Z : Nat → Nat → Nat → Int) (K I : Nat) (v : Int) : Nat → Nat → Nat → Int := fun r i j => if r = K ∧ i = I ∧ j = L K I then v else Z r i j

theorem eqL_sym (l : Nat) (z : Nat → Int) (l' : Nat) (z' : Nat → Int) : eqL l z l' z' = eqL l' z' l z := by
  unfold eqL
  rw [decide_eq_decide]
  constructor
  · rintro ⟨rfl, h⟩
    exact ⟨rfl, fun j hj => (h j hj).symm⟩
  · rintro ⟨rfl, h⟩
    exact ⟨rfl, fun j hj => (h j hj).symm⟩

theorem eqL_one (L : Nat → Nat → Nat) (Z : Nat → Nat → Nat → Int) (K I : Nat) (v : Int) (i : Nat) :
    eqL (L K i) (Z K i) (oneL L K I K i) (oneZ L Z K I v K i) = !decide (i = I) := by
  by_cases e : i = I
  · subst e
    rw [eqL_no (by simp [oneL])]
    simp
  · have e1 : oneL L K I K i = L K i := by simp [oneL, e]
    rw [e1, eqL_yes (fun j _ => by simp [oneZ, e])]
    simp [e]

theorem dif_one {P : Nat → Option Addr} {L : Nat → Nat → Nat} {Z : Nat → Nat → Nat → Int} {K I : Nat} {y : Addr} {v : Int} (hy : P K ≠ some y) (k i : Nat) :
    dif P (oneP P K y) L (oneL L K I) Z (oneZ L Z K I v) k i = decide (k = K ∧ i = I) := by
  unfold dif
  by_cases e : k = K
  · subst e
    rw [eqL_one]
    simp [oneP, hy]
  · simp [oneP, e]

theorem dif_one' {P : Nat → Option Addr} {L : Nat → Nat → Nat} {Z : Nat → Nat → Nat → Int} {K I : Nat} {y : Addr} {v : Int} (hy : P K ≠ some y) (k i : Nat) :
    dif (oneP P K y) P (oneL L K I) L (oneZ L Z K I v) Z k i = decide (k = K ∧ i = I) := by
  unfold dif
  by_cases e : k = K
  · subst e
    rw [eqL_sym, eqL_one]
    have : ¬ some y = P k := fun c => hy c.symm
    simp [oneP, this]
  · simp [oneP, e]

theorem Own.other {w : World} {g n : Nat} {f : Nat → Value} (h : Own w g n f) {p : Addr} (hp : p.block ≠ g) (v : Value) : Own (w.setCell p v) g n f := by
  refine ⟨by have := h.1; simpa [World.setCell] using this, fun i hi => ⟨?_, by rw [World.frozen?_setCell]; exact (h.2 i hi).2⟩⟩
  rw [World.cell?_setCell_other _ _ _ _ (by intro c; subst c; exact hp rfl)]
  exact (h.2 i hi).1

/-- WHAT THE LAW HAS LAID, AHEAD OF ITS THREE LAST STORES: the copy's pointers (g1), the copied block (g2), the longer list (g3). -/
structure Laid (w1 w5 : World) (a : Option Addr) (n : Nat) (P P' : Nat → Option Addr) (L : Nat → Nat → Nat) (Z : Nat → Nat → Nat → Int) (K I : Nat) (y : Addr) (A : Nat → Option Addr) (C : Nat → Nat) (g1 g2 g3 : Nat) : Prop where
  twins : Twins w1 a n P P' L Z
  old : P' K = some y
  rows : ∀ i, i < 64 → Shows w1 (A i) (L K i) (fun j => .int .i64 (Z K i j))
  below : Below w1.heap.size w1 w5
  own1 : Own w5 g1 n (fun r => .pointer (P' r))
  own2 : Own w5 g2 64 (fun i => .slice (A i) (L K i) (C i))
  plain2 : Plain w5 g2
  own3 : Own w5 g3 (L K I + 1) (fun j => if j < L K I then .int .i64 (Z K I j) else .int .i64 0)
  lt1 : w1.heap.size ≤ g1
  lt2 : g1 < g2
  lt3 : g2 < g3

section
variable {w1 w5 : World} {a : Option Addr} {n : Nat} {P P' : Nat → Option Addr} {L : Nat → Nat → Nat} {Z : Nat → Nat → Nat → Int} {K I : Nat} {y : Addr} {A : Nat → Option Addr} {C : Nat → Nat} {g1 g2 g3 : Nat}

/-- The world behind the three stores. -/
def last (w5 : World) (L : Nat → Nat → Nat) (K I g1 g2 g3 : Nat) (v : Int) : World :=
  ((w5.setCell ⟨g3, L K I, none⟩ (.int .i64 v)).setCell ⟨g2, I, none⟩ (.slice (some ⟨g3, 0, none⟩) (L K I + 1) (L K I + 1))).setCell ⟨g1, K, none⟩ (.pointer (some ⟨g2, 0, none⟩))

theorem Laid.belowLast (h : Laid w1 w5 a n P P' L Z K I y A C g1 g2 g3) (v : Int) : Below w1.heap.size w1 (last w5 L K I g1 g2 g3 v) := by
  have := h.lt1; have := h.lt2; have := h.lt3
  exact ((h.below.setCell (by simp; omega) _).setCell (by simp; omega) _).setCell (by simp; omega) _

theorem Laid.blocks (h : Laid w1 w5 a n P P' L Z K I y A C g1 g2 g3) (v : Int) : Blocks (last w5 L K I g1 g2 g3 v) a n P' L Z :=
  (h.twins.below (h.belowLast v) (Nat.le_refl _)).blocks

theorem Laid.blocks' (h : Laid w1 w5 a n P P' L Z K I y A C g1 g2 g3) (v : Int) (hK : K < n) (hI : I < 64) :
    Blocks (last w5 L K I g1 g2 g3 v) (some ⟨g1, 0, none⟩) n (oneP P' K ⟨g2, 0, none⟩) (oneL L K I) (oneZ L Z K I v) := by
  have := h.lt1; have := h.lt2; have := h.lt3
  have o1 : Own (last w5 L K I g1 g2 g3 v) g1 n (fun r => .pointer (oneP P' K ⟨g2, 0, none⟩ r)) :=
    ((((h.own1.other (by simp; omega) _).other (by simp; omega) _).set K hK _)).congr (fun i _ => by
      by_cases e : i = K
      · simp [e, oneP]
      · simp [e, oneP])
  have o2 : Own (last w5 L K I g1 g2 g3 v) g2 64 (fun i => .slice ((fun i => if i = I then some ⟨g3, 0, none⟩ else A i) i) (oneL L K I K i) ((fun i => if i = I then L K I + 1 else C i) i)) :=
    ((((h.own2.other (by simp; omega) _).set I hI _).other (by simp; omega) _)).congr (fun i _ => by
      by_cases e : i = I
      · simp [e, oneL]
      · simp [e, oneL])
  have o3 : Own (last w5 L K I g1 g2 g3 v) g3 (L K I + 1) (fun j => .int .i64 (oneZ L Z K I v K I j)) :=
    ((((h.own3.set (L K I) (by omega) _).other (by simp; omega) _).other (by simp; omega) _)).congr (fun j hj => by
      by_cases e : j = L K I
      · simp [e, oneZ]
      · simp [e, oneZ, show j < L K I by omega])
  refine ⟨o1.shows, fun k hk z hz => ?_⟩
  by_cases e : k = K
  · subst e
    have hz' : z = ⟨g2, 0, none⟩ := by simpa [oneP] using hz.symm
    subst hz'
    refine ⟨_, _, o2.shows, fun i hi => ?_⟩
    by_cases c : i = I
    · subst c
      have e1 : oneL L k i k i = L k i + 1 := by simp [oneL]
      rw [e1]
      simpa using o3.shows
    · have e1 : oneL L k I k i = L k i := by simp [oneL, c]
      rw [e1]
      simp only [if_neg c]
      exact ((h.rows i hi).below (h.belowLast v) (Nat.le_refl _)).congr (fun j _ => by simp [oneZ, c])
  · have hz' : P' k = some z := by simpa [oneP, e] using hz
    obtain ⟨A', C', b1, b2⟩ := (h.blocks v).2 k hk z hz'
    have eL : oneL L K I k = L k := by funext i; simp [oneL, e]
    have eZ : oneZ L Z K I v k = Z k := by funext i j; simp [oneZ, e]
    rw [eL, eZ]
    exact ⟨A', C', b1, b2⟩

theorem Laid.apart (h : Laid w1 w5 a n P P' L Z K I y A C g1 g2 g3) (v : Int) (hK : K < n) : Apart (last w5 L K I g1 g2 g3 v) (P' K) (some ⟨g2, 0, none⟩) := by
  have := h.lt1; have := h.lt2; have := h.lt3
  obtain ⟨⟨_, hp, _⟩, _⟩ := (h.twins.2 K hK).2.2 y h.old
  refine ⟨y, _, h.old, rfl, ?_, hp.below (h.belowLast v) (Nat.le_refl _), ((h.plain2.setCell _ _).setCell _ _).setCell _ _⟩
  intro c
  have := hp.lt
  rw [c] at this
  simp at this
  omega

theorem Laid.neL (h : Laid w1 w5 a n P P' L Z K I y A C g1 g2 g3) (hK : K < n) : P' K ≠ some ⟨g2, 0, none⟩ := by
  obtain ⟨y', z', hy, hz, hne, _⟩ := h.apart 0 hK
  intro c
  rw [hy] at c
  cases hz
  exact hne (Option.some.inj c)

theorem Apart.symm {w : World} {p q : Option Addr} (h : Apart w p q) : Apart w q p := by
  obtain ⟨y, z, h1, h2, h3, h4, h5⟩ := h
  exact ⟨z, y, h2, h1, fun c => h3 c.symm, h5, h4⟩

theorem Apart.below {w w' : World} {B : Nat} {p q : Option Addr} (h : Apart w p q) (hb : Below B w w') (hB : w.heap.size ≤ B) : Apart w' p q := by
  obtain ⟨y, z, h1, h2, h3, h4, h5⟩ := h
  exact ⟨y, z, h1, h2, h3, h4.below hb hB, h5.below hb hB⟩

/-- The two calls of ZZDiffer in the law. -/
theorem differ_one (an : Int) (c1 c2 : Nat) (v : Int) (h : Laid w1 w5 a n P P' L Z K I y A C g1 g2 g3) (hK : K < n) (hI : I < 64) (hn : n ≤ 131072) (hsm : Small n P L) :
    Calls Try.prog 12 #[.slice a n c1, .int .i64 an, .slice (some ⟨g1, 0, none⟩) n c2, .int .i64 an] (last w5 L K I g1 g2 g3 v) fun e w' => Ints w' e [(K : Int) * 64 + (I : Int)] ∧ Below (last w5 L K I g1 g2 g3 v).heap.size (last w5 L K I g1 g2 g3 v) w' := by
  have hz := zzDiffer an an n c1 n c2 a (some ⟨g1, 0, none⟩) P' (oneP P' K ⟨g2, 0, none⟩) L (oneL L K I) Z (oneZ L Z K I v) (last w5 L K I g1 g2 g3 v) (h.blocks v) (h.blocks' v hK hI) (Nat.le_refl _) hn
    (fun k hk => by
      by_cases e : k = K
      · subst e
        right
        simpa [oneP] using h.apart v hK
      · left
        simp [oneP, e])
    (fun k hk hne i hi => by
      have := hsm k hk (fun c => hne ((h.twins.2 k hk).1 c)) i hi
      omega)
  rw [upTo_one hI (fun k i _ _ => dif_one (h.neL hK) k i) n (Nat.le_refl _), if_pos hK] at hz
  exact hz

theorem differ_one' (an : Int) (c1 c2 : Nat) (v : Int) (w9 : World) (hb : Below (last w5 L K I g1 g2 g3 v).heap.size (last w5 L K I g1 g2 g3 v) w9) (h : Laid w1 w5 a n P P' L Z K I y A C g1 g2 g3) (hK : K < n) (hI : I < 64) (hn : n ≤ 131072) (hsm : Small n P L) (hPK : P K ≠ none) :
    Calls Try.prog 12 #[.slice (some ⟨g1, 0, none⟩) n c2, .int .i64 an, .slice a n c1, .int .i64 an] w9 fun e w' => Ints w' e [(K : Int) * 64 + (I : Int)] ∧ Below w9.heap.size w9 w' := by
  have hz := zzDiffer an an n c2 n c1 (some ⟨g1, 0, none⟩) a (oneP P' K ⟨g2, 0, none⟩) P' (oneL L K I) L (oneZ L Z K I v) Z w9 ((h.blocks' v hK hI).below hb (Nat.le_refl _)) ((h.blocks v).below hb (Nat.le_refl _)) (Nat.le_refl _) hn
    (fun k hk => by
      by_cases e : k = K
      · subst e
        right
        have := ((h.apart v hK).below hb (Nat.le_refl _)).symm
        simpa [oneP] using this
      · left
        simp [oneP, e])
    (fun k hk hne i hi => by
      by_cases e : k = K
      · subst e
        have := hsm k hk hPK i hi
        have := hsm k hk hPK I hI
        unfold oneL
        split <;> omega
      · have := hsm k hk (fun c => hne (by simp only [oneP, if_neg e]; exact (h.twins.2 k hk).1 c)) i hi
        have e2 : oneL L K I k i = L k i := by simp [oneL, e]
        rw [e2]
        omega)
  rw [upTo_one hI (fun k i _ _ => dif_one' (h.neL hK) k i) n (Nat.le_refl _), if_pos hK] at hz
  exact hz

theorem ints_one {w : World} {e : Ending} {x : Int} (h : Ints w e [x]) : ∃ y cap, e = .returned (.slice (some y) 1 cap) ∧ y.block < w.heap.size ∧ w.cell? y = some (.int .i64 x) := by
  obtain ⟨a, cap, rfl, hs, _⟩ := h
  obtain ⟨y, rfl, hy, hc⟩ := hs 0 (by simp)
  exact ⟨y, cap, rfl, hy, by simpa [Addr.add] using hc⟩

end
end Go.Proofs.Qxb6606129a
