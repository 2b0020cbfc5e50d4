/-
  A REGION THAT DRAWS ITS ORDER AND HOLDS ONE OPERATION WHOSE ANSWER THE TAPE MAY GIVE (a comparison of two pointers): all ahead of it and all behind it only read.
  On the kit's 'wpAnyH_take', 'wpAnyH_all' (OrdersHeld) and 'wpQuiet' (Quiet).
-/
import Derived.OrdersHeld
import Derived.Deep.QuietTactic
import Derived.BigQuiet
namespace Go.Proofs.Qxb6606129a

/-- Operations that yield a value or end the run. -/
def plainOp (o : Oper) : Bool :=
  match o.op with
  | .move _ | .pick _ _ _ | .load _ _ | .binOp _ _ _ _ _ | .indexAddr _ _ _ => true
  | .call c => match c.callee with | .builtin .len => true | _ => false
  | _ => false

theorem andThen_value {r : Result Value} {n : Next} {w' : World} (h : (r.andThen fun a w' => .ok (Next.value a) w') = .ok n w') : ∃ u, n = .value u := by
  cases r with
  | ok a w2 => simp [Result.andThen] at h; exact ⟨a, h.1.symm⟩
  | halt x w2 => simp [Result.andThen] at h

theorem plain_value {P : Program} {o : Oper} {ρ : Operand → Value} {w w' : World} {n : Next} (hp : plainOp o = true) (h : (execOp ρ o).run P w = .ok n w') : ∃ u, n = .value u := by
  unfold plainOp at hp
  split at hp
  · rename_i x hx; simp [execOp, hx] at h; exact ⟨_, h.1.symm⟩
  · rename_i c a b hx
    simp only [execOp, hx, Sem.run_bind, Sem.run_pure] at h
    cases hr : (asBool (ρ c)).run P w with
    | ok b2 w2 => rw [hr] at h; simp [Result.andThen] at h; exact ⟨_, h.1.symm⟩
    | halt x w2 => rw [hr] at h; simp [Result.andThen] at h
  · rename_i t a hx; simp only [execOp, hx, Sem.run_bind, Sem.run_pure] at h; exact andThen_value h
  · rename_i a b c d e hx; simp only [execOp, hx, Sem.run_bind, Sem.run_pure] at h; exact andThen_value h
  · rename_i a b c hx; simp only [execOp, hx, Sem.run_bind, Sem.run_pure] at h; exact andThen_value h
  · rename_i c hx
    split at hp
    · rename_i hc
      simp only [execOp, hx, resolve, hc, invoke, builtin, Sem.run_bind, Sem.run_pure, Result.andThen_ok] at h
      exact andThen_value h
    · cases hp
  · cases hp
section
variable {P : Program} {ops : Array Oper} {Q : Exit → Act → World → Prop} {md : Region.Mode} {S : World → Prop}

/-- The n operations from k on may be taken one by one. -/
def partB (md : Region.Mode) (ops : Array Oper) : Nat → Nat → Array Bool → Bool
  | 0, _, _ => true
  | n + 1, k, listed => (Region.ready md ops listed).contains k && Region.free md ops listed k && partB md ops n (k + 1) (listed.setIfInBounds k true)

/-- .. and are then listed. -/
def listedTo : Nat → Nat → Array Bool → Array Bool
  | 0, _, listed => listed
  | n + 1, k, listed => listedTo n (k + 1) (listed.setIfInBounds k true)

theorem yieldsIf_of_in {o : Oper} {v : Value} {a : Act} (hp : plainOp o = true) (h : YieldsIn P ops S o v a) : YieldsIf P ops S o v a := by
  rcases h with ⟨hw, hv⟩ | ⟨hw, hv⟩
  · refine .inl ⟨hw, fun w hS => ?_⟩
    have h1 := hv w hS
    unfold Oper.quietAt at h1
    cases hr : (execOp a.eval o).run P w with
    | ok n w' =>
      rw [hr] at h1
      obtain ⟨u, rfl⟩ := plain_value hp hr
      simp only [Oper.quietUpon] at h1
      rw [h1.1, h1.2]
    | halt x w' => rw [hr] at h1; simp only [Oper.quietUpon] at h1
  · exact .inr ⟨hw, hv⟩

theorem takes (hs : Region.noSelect ops = true) (hQ : ∀ c a w, ¬ Q (.panic c) a w) {R : Act → Prop} {fuel : Nat} {w : World} (hS : S w) :
    ∀ (l : List Oper) (k : Nat) (listed : Array Bool) (a : Act), (∀ j o, l[j]? = some o → ops[k + j]? = some o) → (∀ o ∈ l, plainOp o = true) →
      partB md ops l.length k listed = true → wpQuiet P ops S R l a → (∀ a', R a' → wpAnyH P md ops Q S fuel (listedTo l.length k listed) a' w) → wpAnyH P md ops Q S (l.length + fuel) listed a w
  | [], k, listed, a, _, _, _, h, hR => by
    simp only [List.length_nil, Nat.zero_add]
    exact hR a h
  | o :: l, k, listed, a, hl, hp, hB, h, hR => by
    have h0 : ops[k]? = some o := by simpa using hl 0 o rfl
    simp only [List.length_cons, partB, Bool.and_eq_true] at hB
    obtain ⟨⟨hr, hf⟩, hB'⟩ := hB
    have hst : qOp P ops S k (wpQuiet P ops S R l) a := by unfold qOp; simp only [h0]; exact h
    obtain ⟨v, hy, hK⟩ := yieldsIn_of_qOp h0 hst
    have := takes hs hQ hS l (k + 1) (listed.setIfInBounds k true) (a.put o.dst v) (fun j o' hj => by
      have := hl (j + 1) o' (by simpa using hj)
      rwa [show k + (j + 1) = k + 1 + j by omega] at this) (fun o' ho' => hp o' (List.mem_cons_of_mem _ ho')) hB' hK hR
    rw [List.length_cons, show l.length + 1 + fuel = l.length + fuel + 1 by omega]
    exact wpAnyH_take h0 hs hf hr (fun c a w h => absurd h (hQ c _ w)) (yieldsIf_of_in (hp o List.mem_cons_self) hy) hS this

/-- What is asked of the region's text: the n first are taken, then number n alone may come up, then the rest is taken. -/
def cutB (l : List Oper) (n : Nat) : Bool :=
  Region.noSelect l.toArray && (l.take n).all plainOp && (l.drop (n + 1)).all plainOp && partB .any l.toArray n 0 (Array.replicate l.length false) &&
    ((Region.ready .any l.toArray (listedTo n 0 (Array.replicate l.length false))) == [n]) &&
    partB .any l.toArray (l.length - (n + 1)) (n + 1) (listedTo (n + 1) 0 (Array.replicate l.length false)) &&
    (Region.ready .any l.toArray (listedTo l.length 0 (Array.replicate l.length false))).isEmpty && decide (n < l.length)

theorem listedTo_add : ∀ (n m k : Nat) (listed : Array Bool), listedTo (n + m) k listed = listedTo m (k + n) (listedTo n k listed)
  | 0, m, k, listed => by simp [listedTo]
  | n + 1, m, k, listed => by
    rw [show n + 1 + m = (n + m) + 1 by omega]
    show listedTo (n + m) (k + 1) _ = listedTo m (k + (n + 1)) (listedTo n (k + 1) _)
    rw [listedTo_add n m (k + 1), show k + 1 + n = k + (n + 1) by omega]

/-- THE REGION, CUT AT NUMBER n. -/
theorem wp_region_cut {id : Nat} {a : Act} {w : World} {l : List Oper} (n : Nat) (o : Oper) (ho : l[n]? = some o) (hm : P.follows .mixedOrders = true) (hB : cutB l n = true)
    (h : wpQuiet P l.toArray (fun w' => ∃ m, w' = w.drewN m) (fun a' => ∃ v m, Region.wanted o (yielded l.toArray a'.tmps) = true ∧ (execOp a'.eval o).run P w.drew = .ok (.value v) (w.drewN m) ∧
      wpQuiet P l.toArray (fun w' => ∃ m, w' = w.drewN m) (fun a'' => ∀ w', (∃ m, w' = w.drewN m) → Q .normal a'' w') (l.drop (n + 1)) (a'.put o.dst v)) (l.take n) a) :
    (Code.region id l.toArray true).wp P Q a w := by
  simp only [cutB, Bool.and_eq_true, List.all_eq_true, decide_eq_true_eq, beq_iff_eq, List.isEmpty_iff] at hB
  obtain ⟨⟨⟨⟨⟨⟨⟨b1, b2⟩, b3⟩, b4⟩, b5⟩, b6⟩, b7⟩, b8⟩ := hB
  refine Code.wp_mono (Q := fun e a w => match e with | .normal => Q .normal a w | _ => False) (fun e a w hq => ?_) (wp_region_held (S := fun w' => ∃ m, w' = w.drewN m) hm ?_)
  · cases e <;> first | exact hq | exact hq.elim
  · have hlen : (l.take n).length = n := by simp; omega
    have hlen2 : (l.drop (n + 1)).length = l.length - (n + 1) := by simp
    have t1 := takes (P := P) (ops := l.toArray) (md := .any) (S := fun w' => ∃ m, w' = w.drewN m) (Q := fun e a w => match e with | .normal => Q .normal a w | _ => False) b1 (fun c a w h => h)
      (fuel := l.length - n) (w := { w with drawn := w.drawn + 1 }) ⟨1, rfl⟩ (l.take n) 0 (Array.replicate l.length false) a
      (fun j o hj => by
        rw [List.getElem?_take] at hj
        split at hj
        · simpa using hj
        · cases hj) b2 (by rw [hlen]; exact b4) h
    rw [hlen] at t1
    have e1 : l.toArray.size = n + (l.length - n) := by simp; omega
    rw [e1]
    have e2 : n + (l.length - n) = l.length := by omega
    rw [e2]
    rw [e2] at t1
    refine t1 (fun a' ha' => ?_)
    obtain ⟨v, m, hw, hrun, hq⟩ := ha'
    rw [show l.length - n = (l.length - (n + 1)) + 1 by omega]
    refine wpAnyH_all b5 (by simp) (fun i hi => ?_)
    obtain rfl : i = n := by simpa using hi
    have ho' : l.toArray[i]? = some o := by simpa using ho
    unfold wpOp
    simp only [ho', hw, if_true]
    refine .inl ?_
    unfold Oper.wp
    have hrun' : (execOp a'.eval o).run P { w with drawn := w.drawn + 1 } = .ok (.value v) (w.drewN m) := hrun
    rw [hrun']
    simp only [Oper.upon]
    refine ⟨⟨m, rfl⟩, ?_⟩
    have hl1 : (listedTo i 0 (Array.replicate l.length false)).setIfInBounds i true = listedTo (i + 1) 0 (Array.replicate l.length false) := by
      rw [listedTo_add i 1 0]
      simp [listedTo]
    rw [hl1]
    have t2 := takes (P := P) (ops := l.toArray) (md := .any) (S := fun w' => ∃ m, w' = w.drewN m) (Q := fun e a w => match e with | .normal => Q .normal a w | _ => False) b1 (fun c a w h => h)
      (fuel := 0) (w := w.drewN m) ⟨m, rfl⟩ (l.drop (i + 1)) (i + 1) (listedTo (i + 1) 0 (Array.replicate l.length false)) (a'.put o.dst v)
      (fun j o hj => by
        rw [List.getElem?_drop] at hj
        simpa using hj) b3 (by rw [hlen2]; exact b6) hq
    rw [hlen2, Nat.add_zero] at t2
    refine t2 (fun a'' ha'' => ?_)
    have e3 := listedTo_add (i + 1) (l.length - (i + 1)) 0 (Array.replicate l.length false)
    rw [Nat.zero_add, show i + 1 + (l.length - (i + 1)) = l.length by omega] at e3
    rw [← e3]
    exact ⟨b7, ha'' _ ⟨m, rfl⟩⟩
end
end Go.Proofs.Qxb6606129a
