/-
  A REGION THAT DRAWS ITS ORDER, as in YbulkcixiLq, but what an operation leaves may be said of the world too (an address that hangs on the order).
-/
import Derived.Test.YbulkcixiLq
namespace Go.Proofs.Ybulkcixi
open Go

/-- What was said stays said. -/
def Keep3 (R : Nat → Value → World → Prop) (w w' : World) : Prop := ∀ j v, R j v w → R j v w'
theorem Keep3.refl (R : Nat → Value → World → Prop) (w : World) : Keep3 R w w := fun _ _ h => h

section
variable {P : Program}
def LUpon3 (P : Program) (C : Value → World → Prop) (R : Nat → Value → World → Prop) (k : Nat) (w0 : World) : Result Next → Prop
  | .ok (.value v) w' => R k v w' ∧ C v w' ∧ Keep3 R w0 w'
  | .ok .skip w' => R k undef w' ∧ C undef w' ∧ Keep3 R w0 w'
  | .ok (.enter f args) w' => Calls P f args w' fun e w'' => ∃ v, e = .returned v ∧ R k v w'' ∧ C v w'' ∧ Keep3 R w0 w''
  | _ => False

theorem upon_of_L3 {C : Value → World → Prop} {R : Nat → Value → World → Prop} {k : Nat} {w0 : World} {o : Oper} {a : Act} {K : Act → World → Prop} {Q : Exit → Act → World → Prop} {r : Result Next} (h : LUpon3 P C R k w0 r)
    (hk : ∀ v w', R k v w' → C v w' → Keep3 R w0 w' → K (a.put o.dst v) w') : Oper.upon P o a K Q r := by
  cases r with
  | ok n w' =>
    cases n <;> simp only [LUpon3] at h <;> simp only [Oper.upon]
    case value v => exact hk v w' h.1 h.2.1 h.2.2
    case skip => exact hk undef w' h.1 h.2.1 h.2.2
    case enter f args => exact h.mono fun e w'' ⟨v, he, hv, hC, hs⟩ => by subst he; exact hk v w'' hv hC hs
  | halt x w' => simp only [LUpon3] at h
end

section
variable {P : Program} {C : Bool → Act → World → Prop} {L : Nat} {ops : Array Oper} {R : Nat → Value → World → Prop} {a0 : Act}

/-- All has come up. -/
structure Ends3 (ops : Array Oper) (R : Nat → Value → World → Prop) (a0 : Act) (a : Act) (w : World) : Prop where
  size : a.tmps.size = a0.tmps.size
  defers : a.defers = a0.defers
  done : ∀ (j : Nat) (o : Oper) (d : Tmp), ops[j]? = some o → o.dst = some d → R j (a.tmps.getD d undef) w
  rest : ∀ d : Tmp, notDst ops d = true → a.tmps.getD d undef = a0.tmps.getD d undef

structure Fits3 (ops : Array Oper) (R : Nat → Value → World → Prop) (a0 : Act) (listed : Array Bool) (a : Act) (w : World) : Prop where
  size : a.tmps.size = a0.tmps.size
  defers : a.defers = a0.defers
  done : ∀ (j : Nat) (o : Oper) (d : Tmp), ops[j]? = some o → listed.getD j false = true → o.dst = some d → R j (a.tmps.getD d undef) w
  rest : ∀ d : Tmp, (∀ (j : Nat) (o : Oper), ops[j]? = some o → o.dst ≠ some d) → a.tmps.getD d undef = a0.tmps.getD d undef
  notyet : ∀ (j : Nat) (o : Oper) (d : Tmp), ops[j]? = some o → listed.getD j false = false → o.dst = some d → a.tmps.getD d undef = a0.tmps.getD d undef
  closed : ∀ (j : Nat) (o : Oper), ops[j]? = some o → listed.getD j false = true → ∀ e ∈ o.after, Region.binds .any e = true → listed.getD e.on false = true

theorem waits_listed3 {listed : Array Bool} {a : Act} {w : World} (h : Fits3 ops R a0 listed a w) : ∀ (f j k : Nat), waits ops f j k = true → listed.getD j false = true → listed.getD k false = true
  | 0, j, k, hw, _ => by simp [waits] at hw
  | f + 1, j, k, hw, hl => by
    unfold waits at hw
    split at hw
    · cases hw
    · rename_i o ho
      obtain ⟨e, he, hb⟩ := Array.any_eq_true'.1 hw
      simp only [Bool.and_eq_true, Bool.or_eq_true, beq_iff_eq] at hb
      have h1 := h.closed j o ho hl e he hb.1
      rcases hb.2 with h2 | h2
      · rw [← h2]; exact h1
      · exact waits_listed3 h f e.on k h2 h1

theorem loose3_any {Q : Exit → Act → World → Prop} (hL : L < ops.size) (hg : ∀ (j : Nat) (o : Oper), ops[j]? = some o → o.guard = none)
    (hdst : ∀ (i j : Nat) (oi oj : Oper) (d : Tmp), ops[i]? = some oi → ops[j]? = some oj → oi.dst = some d → oj.dst = some d → i = j)
    (hin : ∀ (j : Nat) (o : Oper) (d : Tmp), ops[j]? = some o → o.dst = some d → d < a0.tmps.size)
    (hlow : ∀ (j : Nat) (o : Oper), ops[j]? = some o → ∀ e ∈ o.after, Region.binds .any e = true → e.on < j)
    (ob : ∀ (j : Nat) (o : Oper), ops[j]? = some o → ∀ (listed : Array Bool) (b : Bool) (a : Act) (w : World), Fits3 ops R a0 listed a w → listed.getD j false = false → (∀ e ∈ o.after, Region.binds .any e = true → listed.getD e.on false = true) → b = listed.getD L false → C b a w → LUpon3 P (fun v w' => C (b || j == L) (a.put o.dst v) w') R j w ((execOp a.eval o).run P w))
    (fin : ∀ (a : Act) (w : World), (∀ listed, (∀ j, j < ops.size → listed.getD j false = true) → Fits3 ops R a0 listed a w) → C true a w → Q .normal a w) :
    ∀ (fuel : Nat) (listed : Array Bool) (a : Act) (w : World), listed.size = ops.size → left listed.toList ≤ fuel → Fits3 ops R a0 listed a w → C (listed.getD L false) a w → wpAny P .any ops Q fuel listed a w := by
  have allDone : ∀ (listed : Array Bool) (a : Act) (w : World), listed.size = ops.size → Region.ready .any ops listed = [] → Fits3 ops R a0 listed a w → C (listed.getD L false) a w → Q .normal a w := by
    intro listed a w hs hr hf hC
    have hall : ∀ n j, j < n → j < ops.size → listed.getD j false = true := by
      intro n
      induction n with
      | zero => intro j hj; omega
      | succ n ih =>
        intro j hj hjs
        cases hb : listed.getD j false
        · exfalso
          have hm : j ∈ Region.ready .any ops listed := by
            refine mem_ready.2 ⟨?_, ops[j], by simp [hjs], fun e he hbd => ?_⟩
            · have hjl : j < listed.size := by omega
              simp only [Array.getD, hjl, dif_pos] at hb ⊢
              exact hb
            · have hlt := hlow j ops[j] (by simp [hjs]) e he hbd
              exact ih e.on (by omega) (by omega)
          rw [hr] at hm
          cases hm
        · rfl
    have hlt : ∀ (j : Nat) (o : Oper), ops[j]? = some o → j < ops.size := fun j o ho => by
      rcases Nat.lt_or_ge j ops.size with h | h
      · exact h
      · simp [Array.getElem?_eq_none h] at ho
    rw [hall (L + 1) L (by omega) hL] at hC
    refine fin a w (fun l hl => ⟨hf.size, hf.defers, fun j o d ho _ hd => hf.done j o d ho (hall (j + 1) j (by omega) (hlt j o ho)) hd, hf.rest, fun j o d ho hn hd => ?_, fun j o ho _ e he hb => ?_⟩) hC
    · rw [hl j (hlt j o ho)] at hn; cases hn
    · have := hlow j o ho e he hb
      have := hlt j o ho
      exact hl e.on (by omega)
  intro fuel
  induction fuel with
  | zero =>
    intro listed a w hs hl hf hC
    have hr : Region.ready .any ops listed = [] := by
      refine List.eq_nil_iff_forall_not_mem.2 fun j hj => ?_
      have h1 := (mem_ready.1 hj).1
      have hjl : j < listed.size := by
        rcases Nat.lt_or_ge j listed.size with h | h
        · exact h
        · simp [Array.getD, Nat.not_lt.2 h] at h1
      refine left_zero listed.toList (by omega) j ?_
      simp only [Array.getD, hjl, dif_pos] at h1
      simp [hjl]; exact h1
    exact ⟨hr, allDone listed a w hs hr hf hC⟩
  | succ fuel ih =>
    intro listed a w hs hl hf hC
    refine ⟨fun hr => allDone listed a w hs hr hf hC, fun i hi => ?_⟩
    obtain ⟨h1, o, ho, haft⟩ := mem_ready.1 hi
    have hil : i < listed.size := by
      rcases Nat.lt_or_ge i listed.size with h | h
      · exact h
      · simp [Array.getD, Nat.not_lt.2 h] at h1
    have h1' : listed.getD i false = false := by
      simp only [Array.getD, hil, dif_pos] at h1 ⊢
      exact h1
    unfold wpOp
    simp only [ho]
    have hw : Region.wanted o (yielded ops a.tmps) = true := by simp [Region.wanted, hg i o ho]
    rw [if_pos hw]
    left
    unfold Oper.wp
    refine upon_of_L3 (ob i o ho listed _ a w hf h1' haft rfl hC) fun v w' hv hC' hst => ?_
    refine ih _ _ _ (by simpa using hs) ?_ ?_ ?_
    · have e : (listed.setIfInBounds i true).toList = listed.toList.set i true := by simp
      rw [e]
      have h2 : listed.toList[i]? = some false := by
        simp only [Array.getD, hil, dif_pos] at h1
        simp [hil]; exact h1
      have := left_set listed.toList i h2
      omega
    · have hclosed : ∀ (j : Nat) (oj : Oper), ops[j]? = some oj → (listed.setIfInBounds i true).getD j false = true → ∀ e ∈ oj.after, Region.binds .any e = true → (listed.setIfInBounds i true).getD e.on false = true := by
        intro j oj hoj hlj e he hb
        by_cases hei : e.on = i
        · rw [hei]; exact getD_set_same _ _ hil
        · rw [getD_set_other _ _ _ hei]
          by_cases hij : j = i
          · subst hij
            rw [ho] at hoj
            obtain rfl := Option.some.inj hoj
            exact haft e he hb
          · rw [getD_set_other _ _ _ hij] at hlj
            exact hf.closed j oj hoj hlj e he hb
      cases hd : o.dst with
      | none =>
        refine ⟨hf.size, hf.defers, fun j oj d' hoj hlj hdj => ?_, hf.rest, fun j oj d' hoj hlj hdj => ?_, hclosed⟩
        · by_cases hij : j = i
          · subst hij
            rw [ho] at hoj
            obtain rfl := Option.some.inj hoj
            rw [hd] at hdj; cases hdj
          · rw [getD_set_other _ _ _ hij] at hlj
            exact hst _ _ (hf.done j oj d' hoj hlj hdj)
        · by_cases hij : j = i
          · subst hij
            rw [ho] at hoj
            obtain rfl := Option.some.inj hoj
            rw [hd] at hdj; cases hdj
          · rw [getD_set_other _ _ _ hij] at hlj
            exact hf.notyet j oj d' hoj hlj hdj
      | some d =>
        have hdl := hin i o d ho hd
        refine ⟨by simpa [Act.put] using hf.size, hf.defers, fun j oj d' hoj hlj hdj => ?_, fun d' hd' => ?_, fun j oj d' hoj hlj hdj => ?_, hclosed⟩
        · by_cases hij : j = i
          · subst hij
            rw [ho] at hoj
            obtain rfl := Option.some.inj hoj
            rw [hd] at hdj
            obtain rfl := Option.some.inj hdj
            rw [getD_put_same _ _ _ (by rw [hf.size]; exact hdl)]
            exact hv
          · have hne : d' ≠ d := fun e => hij (hdst j i oj o d' hoj ho hdj (by rw [hd, e]))
            rw [getD_put_other _ _ _ _ hne]
            rw [getD_set_other _ _ _ hij] at hlj
            exact hst _ _ (hf.done j oj d' hoj hlj hdj)
        · have hne : d' ≠ d := fun e => hd' i o ho (by rw [hd, e])
          rw [getD_put_other _ _ _ _ hne]
          exact hf.rest d' hd'
        · by_cases hij : j = i
          · subst hij
            rw [getD_set_same _ _ hil] at hlj; cases hlj
          · have hne : d' ≠ d := fun e => hij (hdst j i oj o d' hoj ho hdj (by rw [hd, e]))
            rw [getD_put_other _ _ _ _ hne]
            rw [getD_set_other _ _ _ hij] at hlj
            exact hf.notyet j oj d' hoj hlj hdj
    · by_cases hLi : L = i
      · subst hLi
        rw [getD_set_same _ _ hil]
        simpa using hC'
      · rw [getD_set_other _ _ _ hLi]
        have : (i == L) = false := by simp; exact fun e => hLi e.symm
        rw [this, Bool.or_false] at hC'
        exact hC'

/-- What an operation may lean on when it comes up. -/
structure Pre3 (ops : Array Oper) (R : Nat → Value → World → Prop) (a0 : Act) (k : Nat) (o : Oper) (a : Act) (w : World) : Prop where
  on : ∀ e ∈ o.after, Region.binds .any e = true → ∀ (o' : Oper) (d : Tmp), ops[e.on]? = some o' → o'.dst = some d → R e.on (a.tmps.getD d undef) w
  rest : ∀ d : Tmp, notDst ops d = true → a.tmps.getD d undef = a0.tmps.getD d undef
  old : ∀ (j : Nat) (o' : Oper) (d : Tmp), ops[j]? = some o' → o'.dst = some d → waits ops 20 j k = true → a.tmps.getD d undef = a0.tmps.getD d undef

def Obs3 (P : Program) (C : Bool → Act → World → Prop) (L : Nat) (ops : Array Oper) (R : Nat → Value → World → Prop) (a0 : Act) : Nat → List Oper → Prop
  | _, [] => True
  | k, o :: l => (∀ b a w, Pre3 ops R a0 k o a w → (waits ops 20 L k = true → b = false) → C b a w → LUpon3 P (fun v w' => C (cond (k == L) true b) (a.put o.dst v) w') R k w ((execOp a.eval o).run P w)) ∧ Obs3 P C L ops R a0 (k + 1) l

theorem obs3_spec : ∀ (l : List Oper) (k : Nat), Obs3 P C L ops R a0 k l → ∀ (j : Nat) (o : Oper), l[j]? = some o → ∀ b a w, Pre3 ops R a0 (k + j) o a w → (waits ops 20 L (k + j) = true → b = false) → C b a w → LUpon3 P (fun v w' => C (cond ((k + j) == L) true b) (a.put o.dst v) w') R (k + j) w ((execOp a.eval o).run P w)
  | [], k, _, j, o, h => by simp at h
  | o' :: l, k, h, 0, o, hj => by
    simp only [List.getElem?_cons_zero, Option.some.injEq] at hj
    subst hj
    exact h.1
  | o' :: l, k, h, j + 1, o, hj => by
    simp only [List.getElem?_cons_succ] at hj
    have := obs3_spec l (k + 1) h.2 j o hj
    rw [show k + (j + 1) = k + 1 + j by omega]
    exact this

theorem wp_region_obs3 {id : Nat} {Q : Exit → Act → World → Prop} {w : World} (hm : P.follows .mixedOrders = true) (hB : lrB ops a0.tmps.size L = true) (hC : C false a0 w.drew)
    (ob : Obs3 P C L ops R a0 0 ops.toList) (fin : ∀ (a : Act) (w : World), Ends3 ops R a0 a w → C true a w → Q .normal a w) : (Code.region id ops true).wp P Q a0 w := by
  obtain ⟨hL, hg, hdst, hin, hlow⟩ := lrB_spec hB
  refine wp_region_any hm (loose3_any (L := L) (C := C) (R := R) hL hg hdst hin hlow (fun j o hj listed b a w hf hnl haft hbl hCw => ?_) (fun a w hf hCw => ?_) _ _ _ _ (by simp) (by simp [left_replicate]) ?_ ?_)
  · have := obs3_spec ops.toList 0 ob j o (by simpa using hj) b a w ⟨fun e he hb o' d ho' hd => hf.done _ _ _ ho' (haft e he hb) hd, fun d hd => hf.rest d (notDst_spec hd), fun j' o' d ho' hd hw => ?_⟩ (fun hw => ?_) hCw
    · rw [Nat.zero_add] at this
      have e : (b || j == L) = cond (j == L) true b := by cases b <;> cases (j == L) <;> rfl
      rw [e]
      exact this
    · refine hf.notyet j' o' d ho' ?_ hd
      cases hb : listed.getD j' false
      · rfl
      · rw [Nat.zero_add] at hw
        rw [waits_listed3 hf 20 j' j hw hb] at hnl
        cases hnl
    · rw [hbl]
      cases hb : listed.getD L false
      · rfl
      · rw [Nat.zero_add] at hw
        rw [waits_listed3 hf 20 L j hw hb] at hnl
        cases hnl
  · have h1 := hf (Array.replicate ops.size true) (fun j hj => by simp [Array.getD, hj])
    refine fin a w ⟨h1.size, h1.defers, fun j o d hj hd => h1.done j o d hj ?_ hd, fun d hd => h1.rest d (notDst_spec hd)⟩ hCw
    have hlt : j < ops.size := by
      rcases Nat.lt_or_ge j ops.size with h | h
      · exact h
      · simp [Array.getElem?_eq_none h] at hj
    simp [Array.getD, hlt]
  · refine ⟨rfl, rfl, fun j o d _ hl _ => ?_, fun _ _ => rfl, fun _ _ _ _ _ _ => rfl, fun j o _ hl => ?_⟩
    · exfalso
      revert hl
      simp [Array.getD]
    · exfalso
      revert hl
      simp [Array.getD]
  · have : (Array.replicate ops.size false).getD L false = false := by simp [Array.getD]
    rw [this]
    exact hC
theorem Ends3.ends {a : Act} {w : World} (h : Ends3 ops R a0 a w) : Ends ops (fun j v => R j v w) a0 a := ⟨h.size, h.defers, h.done, h.rest⟩
end
end Go.Proofs.Ybulkcixi
