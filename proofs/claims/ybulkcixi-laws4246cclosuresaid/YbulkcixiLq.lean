/-
  A REGION THAT DRAWS ITS ORDER, WHOSE OPERATIONS LEAVE SOME VALUE OF A SET; one of them (number L) may write: by an invariant over the operations that have come up. (My own text of the seat before, turned to this program.)
-/
import Derived.Orders
import Derived.Deep.Draws
namespace Go.Proofs.Ybulkcixi
open Go

section
variable {P : Program} {C : World → Prop}
/-- One operation, carried out: a value of the set, a world of the class. -/
def LUpon (P : Program) (C : World → Prop) (S : Value → Prop) : Result Next → Prop
  | .ok (.value v) w' => S v ∧ C w'
  | .ok .skip w' => S undef ∧ C w'
  | .ok (.enter f args) w' => Calls P f args w' fun e w'' => ∃ v, e = .returned v ∧ S v ∧ C w''
  | _ => False

theorem upon_of_L {S : Value → Prop} {o : Oper} {a : Act} {K : Act → World → Prop} {Q : Exit → Act → World → Prop} {r : Result Next} (h : LUpon P C S r)
    (hk : ∀ v w', S v → C w' → K (a.put o.dst v) w') : Oper.upon P o a K Q r := by
  cases r with
  | ok n w' =>
    cases n <;> simp only [LUpon] at h <;> simp only [Oper.upon]
    case value v => exact hk v w' h.1 h.2
    case skip => exact hk undef w' h.1 h.2
    case enter f args => exact h.mono fun e w'' ⟨v, he, hv, hC⟩ => by subst he; exact hk v w'' hv hC
  | halt x w' => simp only [LUpon] at h

end
/-- How many have not come up. -/
def left : List Bool → Nat
  | [] => 0
  | b :: l => (if b then 0 else 1) + left l
theorem left_set : ∀ (l : List Bool) (j : Nat), l[j]? = some false → left (l.set j true) + 1 = left l
  | [], j, h => by simp at h
  | b :: l, 0, h => by
    simp only [List.getElem?_cons_zero, Option.some.injEq] at h
    subst h
    simp [left]; omega
  | b :: l, j + 1, h => by
    simp only [List.getElem?_cons_succ] at h
    have := left_set l j h
    simp only [List.set_cons_succ, left]; omega
theorem left_zero : ∀ (l : List Bool), left l = 0 → ∀ j : Nat, l[j]? ≠ some false
  | [], _, j, h => by simp at h
  | b :: l, h0, 0, h => by
    simp only [List.getElem?_cons_zero, Option.some.injEq] at h
    subst h
    simp [left] at h0
  | b :: l, h0, j + 1, h => by
    simp only [List.getElem?_cons_succ] at h
    simp only [left] at h0
    exact left_zero l (by omega) j h

theorem getD_put_same (a : Act) (d : Tmp) (v : Value) (h : d < a.tmps.size) : (a.put (some d) v).tmps.getD d undef = v := by
  simp [Act.put, Array.getD, h]
theorem getD_put_other (a : Act) (d d' : Tmp) (v : Value) (h : d' ≠ d) : (a.put (some d) v).tmps.getD d' undef = a.tmps.getD d' undef := by
  simp only [Act.put, Array.getD_eq_getD_getElem?, Array.getElem?_setIfInBounds]
  rw [if_neg (fun e => h e.symm)]

theorem left_replicate : ∀ n, left (List.replicate n false) = n
  | 0 => rfl
  | n + 1 => by simp [List.replicate_succ, left, left_replicate n]; omega

def notDst (ops : Array Oper) (d : Tmp) : Bool := ops.all fun o => o.dst != some d

/-- All has come up. -/
structure Ends (ops : Array Oper) (R : Nat → Value → Prop) (a0 : Act) (a : Act) : Prop where
  size : a.tmps.size = a0.tmps.size
  defers : a.defers = a0.defers
  done : ∀ (j : Nat) (o : Oper) (d : Tmp), ops[j]? = some o → o.dst = some d → R j (a.tmps.getD d undef)
  rest : ∀ d : Tmp, notDst ops d = true → a.tmps.getD d undef = a0.tmps.getD d undef

theorem notDst_spec {ops : Array Oper} {d : Tmp} (h : notDst ops d = true) : ∀ (j : Nat) (o : Oper), ops[j]? = some o → o.dst ≠ some d := by
  intro j o hj
  have hm : o ∈ ops := Array.mem_of_getElem? hj
  have := Array.all_eq_true'.1 h o hm
  simpa using this

/-- Does operation j wait for operation k? -/
def waits (ops : Array Oper) : Nat → Nat → Nat → Bool
  | 0, _, _ => false
  | f + 1, j, k => match ops[j]? with
    | none => false
    | some o => o.after.any fun e => Region.binds .any e && (e.on == k || waits ops f e.on k)

section
variable {P : Program} {C : Bool → World → Prop} {L : Nat} {ops : Array Oper} {R : Nat → Value → Prop} {a0 : Act}

structure Fits2 (ops : Array Oper) (R : Nat → Value → Prop) (a0 : Act) (listed : Array Bool) (a : Act) : Prop where
  size : a.tmps.size = a0.tmps.size
  defers : a.defers = a0.defers
  done : ∀ (j : Nat) (o : Oper) (d : Tmp), ops[j]? = some o → listed.getD j false = true → o.dst = some d → R j (a.tmps.getD d undef)
  rest : ∀ d : Tmp, (∀ (j : Nat) (o : Oper), ops[j]? = some o → o.dst ≠ some d) → a.tmps.getD d undef = a0.tmps.getD d undef
  notyet : ∀ (j : Nat) (o : Oper) (d : Tmp), ops[j]? = some o → listed.getD j false = false → o.dst = some d → a.tmps.getD d undef = a0.tmps.getD d undef
  closed : ∀ (j : Nat) (o : Oper), ops[j]? = some o → listed.getD j false = true → ∀ e ∈ o.after, Region.binds .any e = true → listed.getD e.on false = true

theorem waits_listed {listed : Array Bool} {a : Act} (h : Fits2 ops R a0 listed a) : ∀ (f j k : Nat), waits ops f j k = true → listed.getD j false = true → listed.getD k false = true
  | 0, j, k, hw, _ => by simp [waits] at hw
  | f + 1, j, k, hw, hl => by
    unfold waits at hw
    split at hw
    · cases hw
    · rename_i o ho
      obtain ⟨e, he, hb⟩ := Array.any_eq_true'.1 hw
      simp only [Bool.and_eq_true, Bool.or_eq_true, beq_iff_eq] at hb
      have h1 := h.closed j o ho hl e he hb.1
      rcases hb.2 with h2 | h2
      · rw [← h2]; exact h1
      · exact waits_listed h f e.on k h2 h1

theorem getD_set_other (listed : Array Bool) (i j : Nat) (h : j ≠ i) : (listed.setIfInBounds i true).getD j false = listed.getD j false := by
  simp only [Array.getD_eq_getD_getElem?, Array.getElem?_setIfInBounds]
  rw [if_neg (fun e => h e.symm)]
theorem getD_set_same (listed : Array Bool) (i : Nat) (h : i < listed.size) : (listed.setIfInBounds i true).getD i false = true := by
  simp [Array.getD, h]

theorem loose2_any {Q : Exit → Act → World → Prop} (hL : L < ops.size) (hg : ∀ (j : Nat) (o : Oper), ops[j]? = some o → o.guard = none)
    (hdst : ∀ (i j : Nat) (oi oj : Oper) (d : Tmp), ops[i]? = some oi → ops[j]? = some oj → oi.dst = some d → oj.dst = some d → i = j)
    (hin : ∀ (j : Nat) (o : Oper) (d : Tmp), ops[j]? = some o → o.dst = some d → d < a0.tmps.size)
    (hlow : ∀ (j : Nat) (o : Oper), ops[j]? = some o → ∀ e ∈ o.after, Region.binds .any e = true → e.on < j)
    (ob : ∀ (j : Nat) (o : Oper), ops[j]? = some o → ∀ (listed : Array Bool) (b : Bool) (a : Act) (w : World), Fits2 ops R a0 listed a → listed.getD j false = false → (∀ e ∈ o.after, Region.binds .any e = true → listed.getD e.on false = true) → C b w → LUpon P (C (b || j == L)) (R j) ((execOp a.eval o).run P w))
    (fin : ∀ (a : Act) (w : World), (∀ listed, (∀ j, j < ops.size → listed.getD j false = true) → Fits2 ops R a0 listed a) → C true w → Q .normal a w) :
    ∀ (fuel : Nat) (listed : Array Bool) (a : Act) (w : World), listed.size = ops.size → left listed.toList ≤ fuel → Fits2 ops R a0 listed a → C (listed.getD L false) w → wpAny P .any ops Q fuel listed a w := by
  have allDone : ∀ (listed : Array Bool) (a : Act) (w : World), listed.size = ops.size → Region.ready .any ops listed = [] → Fits2 ops R a0 listed a → C (listed.getD L false) w → Q .normal a w := by
    intro listed a w hs hr hf hC
    have hall : ∀ n j, j < n → j < ops.size → listed.getD j false = true := by
      intro n
      induction n with
      | zero => intro j hj; omega
      | succ n ih =>
        intro j hj hjs
        cases hb : listed.getD j false
        · exfalso
          have hm : j ∈ Region.ready .any ops listed := by
            refine mem_ready.2 ⟨?_, ops[j], by simp [hjs], fun e he hbd => ?_⟩
            · have hjl : j < listed.size := by omega
              simp only [Array.getD, hjl, dif_pos] at hb ⊢
              exact hb
            · have hlt := hlow j ops[j] (by simp [hjs]) e he hbd
              exact ih e.on (by omega) (by omega)
          rw [hr] at hm
          cases hm
        · rfl
    have hlt : ∀ (j : Nat) (o : Oper), ops[j]? = some o → j < ops.size := fun j o ho => by
      rcases Nat.lt_or_ge j ops.size with h | h
      · exact h
      · simp [Array.getElem?_eq_none h] at ho
    rw [hall (L + 1) L (by omega) hL] at hC
    refine fin a w (fun l hl => ⟨hf.size, hf.defers, fun j o d ho _ hd => hf.done j o d ho (hall (j + 1) j (by omega) (hlt j o ho)) hd, hf.rest, fun j o d ho hn hd => ?_, fun j o ho _ e he hb => ?_⟩) hC
    · rw [hl j (hlt j o ho)] at hn; cases hn
    · have := hlow j o ho e he hb
      have := hlt j o ho
      exact hl e.on (by omega)
  intro fuel
  induction fuel with
  | zero =>
    intro listed a w hs hl hf hC
    have hr : Region.ready .any ops listed = [] := by
      refine List.eq_nil_iff_forall_not_mem.2 fun j hj => ?_
      have h1 := (mem_ready.1 hj).1
      have hjl : j < listed.size := by
        rcases Nat.lt_or_ge j listed.size with h | h
        · exact h
        · simp [Array.getD, Nat.not_lt.2 h] at h1
      refine left_zero listed.toList (by omega) j ?_
      simp only [Array.getD, hjl, dif_pos] at h1
      simp [hjl]; exact h1
    exact ⟨hr, allDone listed a w hs hr hf hC⟩
  | succ fuel ih =>
    intro listed a w hs hl hf hC
    refine ⟨fun hr => allDone listed a w hs hr hf hC, fun i hi => ?_⟩
    obtain ⟨h1, o, ho, haft⟩ := mem_ready.1 hi
    have hil : i < listed.size := by
      rcases Nat.lt_or_ge i listed.size with h | h
      · exact h
      · simp [Array.getD, Nat.not_lt.2 h] at h1
    have h1' : listed.getD i false = false := by
      simp only [Array.getD, hil, dif_pos] at h1 ⊢
      exact h1
    unfold wpOp
    simp only [ho]
    have hw : Region.wanted o (yielded ops a.tmps) = true := by simp [Region.wanted, hg i o ho]
    rw [if_pos hw]
    left
    unfold Oper.wp
    refine upon_of_L (ob i o ho listed _ a w hf h1' haft hC) fun v w' hv hC' => ?_
    refine ih _ _ _ (by simpa using hs) ?_ ?_ ?_
    · have e : (listed.setIfInBounds i true).toList = listed.toList.set i true := by simp
      rw [e]
      have h2 : listed.toList[i]? = some false := by
        simp only [Array.getD, hil, dif_pos] at h1
        simp [hil]; exact h1
      have := left_set listed.toList i h2
      omega
    · have hclosed : ∀ (j : Nat) (oj : Oper), ops[j]? = some oj → (listed.setIfInBounds i true).getD j false = true → ∀ e ∈ oj.after, Region.binds .any e = true → (listed.setIfInBounds i true).getD e.on false = true := by
        intro j oj hoj hlj e he hb
        by_cases hei : e.on = i
        · rw [hei]; exact getD_set_same _ _ hil
        · rw [getD_set_other _ _ _ hei]
          by_cases hij : j = i
          · subst hij
            rw [ho] at hoj
            obtain rfl := Option.some.inj hoj
            exact haft e he hb
          · rw [getD_set_other _ _ _ hij] at hlj
            exact hf.closed j oj hoj hlj e he hb
      cases hd : o.dst with
      | none =>
        refine ⟨hf.size, hf.defers, fun j oj d' hoj hlj hdj => ?_, hf.rest, fun j oj d' hoj hlj hdj => ?_, hclosed⟩
        · by_cases hij : j = i
          · subst hij
            rw [ho] at hoj
            obtain rfl := Option.some.inj hoj
            rw [hd] at hdj; cases hdj
          · rw [getD_set_other _ _ _ hij] at hlj
            exact hf.done j oj d' hoj hlj hdj
        · by_cases hij : j = i
          · subst hij
            rw [ho] at hoj
            obtain rfl := Option.some.inj hoj
            rw [hd] at hdj; cases hdj
          · rw [getD_set_other _ _ _ hij] at hlj
            exact hf.notyet j oj d' hoj hlj hdj
      | some d =>
        have hdl := hin i o d ho hd
        refine ⟨by simpa [Act.put] using hf.size, hf.defers, fun j oj d' hoj hlj hdj => ?_, fun d' hd' => ?_, fun j oj d' hoj hlj hdj => ?_, hclosed⟩
        · by_cases hij : j = i
          · subst hij
            rw [ho] at hoj
            obtain rfl := Option.some.inj hoj
            rw [hd] at hdj
            obtain rfl := Option.some.inj hdj
            rw [getD_put_same _ _ _ (by rw [hf.size]; exact hdl)]
            exact hv
          · have hne : d' ≠ d := fun e => hij (hdst j i oj o d' hoj ho hdj (by rw [hd, e]))
            rw [getD_put_other _ _ _ _ hne]
            rw [getD_set_other _ _ _ hij] at hlj
            exact hf.done j oj d' hoj hlj hdj
        · have hne : d' ≠ d := fun e => hd' i o ho (by rw [hd, e])
          rw [getD_put_other _ _ _ _ hne]
          exact hf.rest d' hd'
        · by_cases hij : j = i
          · subst hij
            rw [getD_set_same _ _ hil] at hlj; cases hlj
          · have hne : d' ≠ d := fun e => hij (hdst j i oj o d' hoj ho hdj (by rw [hd, e]))
            rw [getD_put_other _ _ _ _ hne]
            rw [getD_set_other _ _ _ hij] at hlj
            exact hf.notyet j oj d' hoj hlj hdj
    · by_cases hLi : L = i
      · subst hLi
        rw [getD_set_same _ _ hil]
        simpa using hC'
      · rw [getD_set_other _ _ _ hLi]
        have : (i == L) = false := by simp; exact fun e => hLi e.symm
        rw [this, Bool.or_false] at hC'
        exact hC'

/-- The closed conditions, as one Bool. -/
def lrB (ops : Array Oper) (sz L : Nat) : Bool :=
  decide (L < ops.size) && (List.range ops.size).all fun j => match ops[j]? with
    | none => true
    | some o => o.guard.isNone && (match o.dst with | none => true | some d => decide (d < sz)) && o.after.all (fun e => !Region.binds .any e || decide (e.on < j)) &&
      (List.range ops.size).all fun i => match ops[i]? with | none => true | some o' => decide (i = j) || o'.dst.isNone || o'.dst != o.dst

theorem lrB_spec {sz : Nat} (h : lrB ops sz L = true) :
    L < ops.size ∧ (∀ (j : Nat) (o : Oper), ops[j]? = some o → o.guard = none) ∧
    (∀ (i j : Nat) (oi oj : Oper) (d : Tmp), ops[i]? = some oi → ops[j]? = some oj → oi.dst = some d → oj.dst = some d → i = j) ∧
    (∀ (j : Nat) (o : Oper) (d : Tmp), ops[j]? = some o → o.dst = some d → d < sz) ∧
    (∀ (j : Nat) (o : Oper), ops[j]? = some o → ∀ e ∈ o.after, Region.binds .any e = true → e.on < j) := by
  have hlt : ∀ (j : Nat) (o : Oper), ops[j]? = some o → j < ops.size := fun j o hj => by
    rcases Nat.lt_or_ge j ops.size with h | h
    · exact h
    · simp [Array.getElem?_eq_none h] at hj
  unfold lrB at h
  rw [Bool.and_eq_true] at h
  obtain ⟨hL, h⟩ := h
  have key : ∀ (j : Nat) (o : Oper), ops[j]? = some o → (o.guard.isNone = true ∧ (match o.dst with | none => true | some d => decide (d < sz)) = true ∧ o.after.all (fun e => !Region.binds .any e || decide (e.on < j)) = true) ∧
      ∀ (i : Nat) (o' : Oper), ops[i]? = some o' → (i = j ∨ o'.dst.isNone = true) ∨ (o'.dst != o.dst) = true := by
    intro j o hj
    have := List.all_eq_true.1 h j (List.mem_range.2 (hlt j o hj))
    simp only [hj, Bool.and_eq_true] at this
    obtain ⟨⟨⟨g1, g2⟩, g3⟩, g4⟩ := this
    refine ⟨⟨g1, g2, g3⟩, fun i o' hi => ?_⟩
    have := List.all_eq_true.1 g4 i (List.mem_range.2 (hlt i o' hi))
    simp only [hi, Bool.or_eq_true, decide_eq_true_eq] at this
    exact this
  refine ⟨by simpa using hL, fun j o hj => by simpa using (key j o hj).1.1, fun i j oi oj d hi hj h1 h2 => ?_, fun j o d hj hd => ?_, fun j o hj e he hb => ?_⟩
  · rcases (key j oj hj).2 i oi hi with (h | h) | h
    · exact h
    · simp [h1] at h
    · simp [h1, h2] at h
  · have := (key j o hj).1.2.1
    rw [hd] at this
    simpa using this
  · have := (key j o hj).1.2.2
    have h2 := (Array.all_eq_true'.1 this) e he
    simp [hb] at h2
    exact h2

/-- What an operation may lean on when it comes up. -/
structure Pre2 (ops : Array Oper) (R : Nat → Value → Prop) (a0 : Act) (k : Nat) (o : Oper) (a : Act) : Prop where
  on : ∀ e ∈ o.after, Region.binds .any e = true → ∀ (o' : Oper) (d : Tmp), ops[e.on]? = some o' → o'.dst = some d → R e.on (a.tmps.getD d undef)
  rest : ∀ d : Tmp, notDst ops d = true → a.tmps.getD d undef = a0.tmps.getD d undef
  old : ∀ (j : Nat) (o' : Oper) (d : Tmp), ops[j]? = some o' → o'.dst = some d → waits ops 20 j k = true → a.tmps.getD d undef = a0.tmps.getD d undef

def Obs2 (P : Program) (C : Bool → World → Prop) (L : Nat) (ops : Array Oper) (R : Nat → Value → Prop) (a0 : Act) : Nat → List Oper → Prop
  | _, [] => True
  | k, o :: l => (∀ b a w, Pre2 ops R a0 k o a → C b w → LUpon P (C (cond (k == L) true b)) (R k) ((execOp a.eval o).run P w)) ∧ Obs2 P C L ops R a0 (k + 1) l

theorem obs2_spec : ∀ (l : List Oper) (k : Nat), Obs2 P C L ops R a0 k l → ∀ (j : Nat) (o : Oper), l[j]? = some o → ∀ b a w, Pre2 ops R a0 (k + j) o a → C b w → LUpon P (C (cond ((k + j) == L) true b)) (R (k + j)) ((execOp a.eval o).run P w)
  | [], k, _, j, o, h => by simp at h
  | o' :: l, k, h, 0, o, hj => by
    simp only [List.getElem?_cons_zero, Option.some.injEq] at hj
    subst hj
    exact h.1
  | o' :: l, k, h, j + 1, o, hj => by
    simp only [List.getElem?_cons_succ] at hj
    have := obs2_spec l (k + 1) h.2 j o hj
    rw [show k + (j + 1) = k + 1 + j by omega]
    exact this

theorem wp_region_obs2 {id : Nat} {Q : Exit → Act → World → Prop} {w : World} (hm : P.follows .mixedOrders = true) (hB : lrB ops a0.tmps.size L = true) (hC : C false w.drew)
    (ob : Obs2 P C L ops R a0 0 ops.toList) (fin : ∀ (a : Act) (w : World), Ends ops R a0 a → C true w → Q .normal a w) : (Code.region id ops true).wp P Q a0 w := by
  obtain ⟨hL, hg, hdst, hin, hlow⟩ := lrB_spec hB
  refine wp_region_any hm (loose2_any (L := L) (C := C) (R := R) hL hg hdst hin hlow (fun j o hj listed b a w hf hnl haft hCw => ?_) (fun a w hf hCw => ?_) _ _ _ _ (by simp) (by simp [left_replicate]) ?_ ?_)
  · have := obs2_spec ops.toList 0 ob j o (by simpa using hj) b a w ⟨fun e he hb o' d ho' hd => hf.done _ _ _ ho' (haft e he hb) hd, fun d hd => hf.rest d (notDst_spec hd), fun j' o' d ho' hd hw => ?_⟩ hCw
    · rw [Nat.zero_add] at this
      have e : (b || j == L) = cond (j == L) true b := by cases b <;> cases (j == L) <;> rfl
      rw [e]
      exact this
    · refine hf.notyet j' o' d ho' ?_ hd
      cases hb : listed.getD j' false
      · rfl
      · rw [Nat.zero_add] at hw
        rw [waits_listed hf 20 j' j hw hb] at hnl
        cases hnl
  · have h1 := hf (Array.replicate ops.size true) (fun j hj => by simp [Array.getD, hj])
    refine fin a w ⟨h1.size, h1.defers, fun j o d hj hd => h1.done j o d hj ?_ hd, fun d hd => h1.rest d (notDst_spec hd)⟩ hCw
    have hlt : j < ops.size := by
      rcases Nat.lt_or_ge j ops.size with h | h
      · exact h
      · simp [Array.getElem?_eq_none h] at hj
    simp [Array.getD, hlt]
  · refine ⟨rfl, rfl, fun j o d _ hl _ => ?_, fun _ _ => rfl, fun _ _ _ _ _ _ => rfl, fun j o _ hl => ?_⟩
    · exfalso
      revert hl
      simp [Array.getD]
    · exfalso
      revert hl
      simp [Array.getD]
  · have : (Array.replicate ops.size false).getD L false = false := by simp [Array.getD]
    rw [this]
    exact hC
end
end Go.Proofs.Ybulkcixi
