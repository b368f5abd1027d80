/-
  A REGION THAT DRAWS ITS ORDER, WHOSE OPERATIONS LEAVE SOME VALUE OF A SET (not one value): whatever the order, in the end every slot holds a value of its set. By an invariant over the operations that have come up.
-/
import Derived.Orders
import Derived.Deep.Draws
namespace Go.Proofs.YbulkcivsDoor
open Go

section
variable {P : Program} {C : World → Prop} {ops : Array Oper} {R : Nat → Value → Prop} {a0 : Act}

/-- One operation, carried out: a value of the set, a world of the class. -/
def LUpon (P : Program) (C : World → Prop) (S : Value → Prop) : Result Next → Prop
  | .ok (.value v) w' => S v ∧ C w'
  | .ok .skip w' => S undef ∧ C w'
  | .ok (.enter f args) w' => Calls P f args w' fun e w'' => ∃ v, e = .returned v ∧ S v ∧ C w''
  | _ => False

theorem upon_of_L {S : Value → Prop} {o : Oper} {a : Act} {K : Act → World → Prop} {Q : Exit → Act → World → Prop} {r : Result Next} (h : LUpon P C S r)
    (hk : ∀ v w', S v → C w' → K (a.put o.dst v) w') : Oper.upon P o a K Q r := by
  cases r with
  | ok n w' =>
    cases n <;> simp only [LUpon] at h <;> simp only [Oper.upon]
    case value v => exact hk v w' h.1 h.2
    case skip => exact hk undef w' h.1 h.2
    case enter f args => exact h.mono fun e w'' ⟨v, he, hv, hC⟩ => by subst he; exact hk v w'' hv hC
  | halt x w' => simp only [LUpon] at h

/-- The operations that have come up have left values of their sets; all else is as it was. -/
structure Fits (ops : Array Oper) (R : Nat → Value → Prop) (a0 : Act) (listed : Array Bool) (a : Act) : Prop where
  size : a.tmps.size = a0.tmps.size
  defers : a.defers = a0.defers
  done : ∀ (j : Nat) (o : Oper) (d : Tmp), ops[j]? = some o → listed.getD j false = true → o.dst = some d → R j (a.tmps.getD d undef)
  rest : ∀ d : Tmp, (∀ (j : Nat) (o : Oper), ops[j]? = some o → o.dst ≠ some d) → a.tmps.getD d undef = a0.tmps.getD d undef

/-- How many have not come up. -/
def left : List Bool → Nat
  | [] => 0
  | b :: l => (if b then 0 else 1) + left l
theorem left_set : ∀ (l : List Bool) (j : Nat), l[j]? = some false → left (l.set j true) + 1 = left l
  | [], j, h => by simp at h
  | b :: l, 0, h => by
    simp only [List.getElem?_cons_zero, Option.some.injEq] at h
    subst h
    simp [left]; omega
  | b :: l, j + 1, h => by
    simp only [List.getElem?_cons_succ] at h
    have := left_set l j h
    simp only [List.set_cons_succ, left]; omega
theorem left_zero : ∀ (l : List Bool), left l = 0 → ∀ j : Nat, l[j]? ≠ some false
  | [], _, j, h => by simp at h
  | b :: l, h0, 0, h => by
    simp only [List.getElem?_cons_zero, Option.some.injEq] at h
    subst h
    simp [left] at h0
  | b :: l, h0, j + 1, h => by
    simp only [List.getElem?_cons_succ] at h
    simp only [left] at h0
    exact left_zero l (by omega) j h

theorem getD_put_same (a : Act) (d : Tmp) (v : Value) (h : d < a.tmps.size) : (a.put (some d) v).tmps.getD d undef = v := by
  simp [Act.put, Array.getD, h]
theorem getD_put_other (a : Act) (d d' : Tmp) (v : Value) (h : d' ≠ d) : (a.put (some d) v).tmps.getD d' undef = a.tmps.getD d' undef := by
  simp only [Act.put, Array.getD_eq_getD_getElem?, Array.getElem?_setIfInBounds]
  rw [if_neg (fun e => h e.symm)]

theorem loose_any {Q : Exit → Act → World → Prop} (hg : ∀ (j : Nat) (o : Oper), ops[j]? = some o → o.guard = none)
    (hdst : ∀ (i j : Nat) (oi oj : Oper) (d : Tmp), ops[i]? = some oi → ops[j]? = some oj → oi.dst = some d → oj.dst = some d → i = j)
    (hin : ∀ (j : Nat) (o : Oper), ops[j]? = some o → ∃ d, o.dst = some d ∧ d < a0.tmps.size)
    (hlow : ∀ (j : Nat) (o : Oper), ops[j]? = some o → ∀ e ∈ o.after, Region.binds .any e = true → e.on < j)
    (ob : ∀ (j : Nat) (o : Oper), ops[j]? = some o → ∀ (listed : Array Bool) (a : Act) (w : World), Fits ops R a0 listed a → (∀ e ∈ o.after, Region.binds .any e = true → listed.getD e.on false = true) → C w → LUpon P C (R j) ((execOp a.eval o).run P w))
    (fin : ∀ (a : Act) (w : World), (∀ listed, Fits ops R a0 listed a) → C w → Q .normal a w) :
    ∀ (fuel : Nat) (listed : Array Bool) (a : Act) (w : World), listed.size = ops.size → left listed.toList ≤ fuel → Fits ops R a0 listed a → C w → wpAny P .any ops Q fuel listed a w := by
  have allDone : ∀ (listed : Array Bool) (a : Act) (w : World), listed.size = ops.size → Region.ready .any ops listed = [] → Fits ops R a0 listed a → C w → Q .normal a w := by
    intro listed a w hs hr hf hC
    have hall : ∀ n j, j < n → j < ops.size → listed.getD j false = true := by
      intro n
      induction n with
      | zero => intro j hj; omega
      | succ n ih =>
        intro j hj hjs
        cases hb : listed.getD j false
        · exfalso
          have hm : j ∈ Region.ready .any ops listed := by
            refine mem_ready.2 ⟨?_, ops[j], by simp [hjs], fun e he hbd => ?_⟩
            · have hjl : j < listed.size := by omega
              simp only [Array.getD, hjl, dif_pos] at hb ⊢
              exact hb
            · have hlt := hlow j ops[j] (by simp [hjs]) e he hbd
              exact ih e.on (by omega) (by omega)
          rw [hr] at hm
          cases hm
        · rfl
    refine fin a w (fun l => ⟨hf.size, hf.defers, fun j o d ho _ hd => ?_, hf.rest⟩) hC
    exact hf.done j o d ho (hall (j + 1) j (by omega) (by rcases Nat.lt_or_ge j ops.size with h | h; exact h; simp [Array.getElem?_eq_none h] at ho)) hd
  intro fuel
  induction fuel with
  | zero =>
    intro listed a w hs hl hf hC
    have hr : Region.ready .any ops listed = [] := by
      refine List.eq_nil_iff_forall_not_mem.2 fun j hj => ?_
      have h1 := (mem_ready.1 hj).1
      have hjl : j < listed.size := by
        rcases Nat.lt_or_ge j listed.size with h | h
        · exact h
        · simp [Array.getD, Nat.not_lt.2 h] at h1
      refine left_zero listed.toList (by omega) j ?_
      simp only [Array.getD, hjl, dif_pos] at h1
      simp [hjl]; exact h1
    exact ⟨hr, allDone listed a w hs hr hf hC⟩
  | succ fuel ih =>
    intro listed a w hs hl hf hC
    refine ⟨fun hr => allDone listed a w hs hr hf hC, fun i hi => ?_⟩
    obtain ⟨h1, o, ho, haft⟩ := mem_ready.1 hi
    obtain ⟨d, hd, hdl⟩ := hin i o ho
    have hil : i < listed.size := by
      rcases Nat.lt_or_ge i listed.size with h | h
      · exact h
      · simp [Array.getD, Nat.not_lt.2 h] at h1
    unfold wpOp
    simp only [ho]
    have hw : Region.wanted o (yielded ops a.tmps) = true := by simp [Region.wanted, hg i o ho]
    rw [if_pos hw]
    left
    unfold Oper.wp
    refine upon_of_L (ob i o ho listed a w hf haft hC) fun v w' hv hC' => ?_
    refine ih _ _ _ (by simpa using hs) ?_ ?_ hC'
    · have e : (listed.setIfInBounds i true).toList = listed.toList.set i true := by simp
      rw [e]
      have h2 : listed.toList[i]? = some false := by
        simp only [Array.getD, hil, dif_pos] at h1
        simp [hil]; exact h1
      have := left_set listed.toList i h2
      omega
    · rw [hd]
      refine ⟨by simpa [Act.put] using hf.size, hf.defers, fun j oj d' hoj hlj hdj => ?_, fun d' hd' => ?_⟩
      · by_cases hij : j = i
        · subst hij
          rw [ho] at hoj
          obtain rfl := Option.some.inj hoj
          rw [hd] at hdj
          obtain rfl := Option.some.inj hdj
          rw [getD_put_same _ _ _ (by rw [hf.size]; exact hdl)]
          exact hv
        · have hne : d' ≠ d := fun e => hij (hdst j i oj o d' hoj ho hdj (by rw [hd, e]))
          rw [getD_put_other _ _ _ _ hne]
          refine hf.done j oj d' hoj ?_ hdj
          have : (listed.setIfInBounds i true).getD j false = listed.getD j false := by
            simp only [Array.getD_eq_getD_getElem?, Array.getElem?_setIfInBounds]
            rw [if_neg (fun e => hij e.symm)]
          rw [this] at hlj
          exact hlj
      · have hne : d' ≠ d := fun e => hd' i o ho (by rw [hd, e])
        rw [getD_put_other _ _ _ _ hne]
        exact hf.rest d' hd'

theorem left_replicate : ∀ n, left (List.replicate n false) = n
  | 0 => rfl
  | n + 1 => by simp [List.replicate_succ, left, left_replicate n]; omega

/-- THE REGION. -/
theorem wp_region_loose {id : Nat} {Q : Exit → Act → World → Prop} {w : World} (hm : P.follows .mixedOrders = true) (hg : ∀ (j : Nat) (o : Oper), ops[j]? = some o → o.guard = none)
    (hdst : ∀ (i j : Nat) (oi oj : Oper) (d : Tmp), ops[i]? = some oi → ops[j]? = some oj → oi.dst = some d → oj.dst = some d → i = j)
    (hin : ∀ (j : Nat) (o : Oper), ops[j]? = some o → ∃ d, o.dst = some d ∧ d < a0.tmps.size)
    (hlow : ∀ (j : Nat) (o : Oper), ops[j]? = some o → ∀ e ∈ o.after, Region.binds .any e = true → e.on < j) (hC : C w.drew)
    (ob : ∀ (j : Nat) (o : Oper), ops[j]? = some o → ∀ (listed : Array Bool) (a : Act) (w : World), Fits ops R a0 listed a → (∀ e ∈ o.after, Region.binds .any e = true → listed.getD e.on false = true) → C w → LUpon P C (R j) ((execOp a.eval o).run P w))
    (fin : ∀ (a : Act) (w : World), (∀ listed, Fits ops R a0 listed a) → C w → Q .normal a w) : (Code.region id ops true).wp P Q a0 w := by
  refine wp_region_any hm (loose_any hg hdst hin hlow ob fin _ _ _ _ (by simp) (by simp [left_replicate]) ⟨rfl, rfl, fun j o d _ hl _ => ?_, fun _ _ => rfl⟩ hC)
  exfalso
  revert hl
  simp [Array.getD]
end
end Go.Proofs.YbulkcivsDoor
