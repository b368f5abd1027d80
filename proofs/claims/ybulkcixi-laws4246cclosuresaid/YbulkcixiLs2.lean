/-
  PLAIN: the second phase of tookEffect: what holds between its steps.
-/
import Derived.Test.YbulkcixiTa
namespace Go.Proofs.Ybulkcixi
set_option linter.unusedVariables false

theorem least_ok {n : Nat} {cs : Nat → CallD} (h : ∀ k, G1 cs n k = []) : Least n cs (fun j => decide (j < n ∧ (cs j).oc = 1)) := by
  have hno : ∀ m, m < n → unkB (cs m) = true → False := fun m hm hu => by
    have := (G1_mem cs n (kvOf (cs m)) m).2 ⟨hm, hu, rfl⟩
    rw [h] at this
    cases this
  refine ⟨⟨fun i hi ho => by simp [hi, ho], fun i j hi hj _ _ hu _ => (hno j hj hu).elim⟩, fun S hS i hi ht => ?_⟩
  simp at ht
  exact hS.ok i hi ht.2

/-- A call that needs nothing more. -/
def Done (cs : Nat → CallD) (G : KV → List Nat) (j : Nat) : Prop := (cs j).f = 2 ∨ G (needKv (cs j)) = []

/-- Between the steps: i: the outer round; L: the stack; G: what the map still holds; T: what is taken. -/
structure Phase (n : Nat) (cs : Nat → CallD) (i : Nat) (L : List Nat) (G : KV → List Nat) (T : Nat → Bool) : Prop where
  low : ∀ S, Closed n cs S → ∀ j, j < n → T j = true → S j
  ok : ∀ j, j < n → (cs j).oc = 1 → T j = true
  mem : ∀ k m, m ∈ G k → m < n ∧ unkB (cs m) = true ∧ kvOf (cs m) = k
  left : ∀ m, m < n → unkB (cs m) = true → m ∈ G (kvOf (cs m)) ∨ T m = true
  done : ∀ j, j < n → T j = true → Done cs G j ∨ j ∈ L ∨ ((cs j).oc = 1 ∧ i ≤ j)
  stack : ∀ j, j ∈ L → j < n ∧ T j = true

theorem Phase.start {n : Nat} {cs : Nat → CallD} : Phase n cs 0 [] (G1 cs n) (fun j => decide (j < n ∧ (cs j).oc = 1)) :=
  ⟨fun S hS j hj ht => hS.ok j hj (by simp at ht; exact ht.2), fun j hj ho => by simp [hj, ho], fun k m hm => by
    obtain ⟨h1, h2, h3⟩ := (G1_mem cs n k m).1 hm
    exact ⟨h1, h2, h3⟩, fun m hm hu => .inl ((G1_mem cs n _ m).2 ⟨hm, hu, rfl⟩), fun j hj ht => .inr (.inr ⟨by simp at ht; exact ht.2, Nat.zero_le _⟩), fun j hj => by cases hj⟩

theorem Phase.finish {n : Nat} {cs : Nat → CallD} {G : KV → List Nat} {T : Nat → Bool} (h : Phase n cs n [] G T) : Least n cs T := by
  refine ⟨⟨h.ok, fun i j hi hj ht hf hu hk => ?_⟩, h.low⟩
  rcases h.done i hi ht with hd | hd | hd
  · rcases hd with hd | hd
    · exact absurd hd hf
    · rcases h.left j hj hu with hl | hl
      · rw [hk, hd] at hl; cases hl
      · exact hl
  · cases hd
  · omega

/-- The outer round begins: i is taken: it goes on the stack. -/
theorem Phase.push {n : Nat} {cs : Nat → CallD} {i : Nat} {G : KV → List Nat} {T : Nat → Bool} (h : Phase n cs i [] G T) (hi : i < n) (ht : T i = true) : Phase n cs (i + 1) [i] G T := by
  refine ⟨h.low, h.ok, h.mem, h.left, fun j hj htj => ?_, fun j hj => by simp at hj; subst hj; exact ⟨hi, ht⟩⟩
  rcases h.done j hj htj with hd | hd | hd
  · exact .inl hd
  · cases hd
  · by_cases e : j = i
    · exact .inr (.inl (by simp [e]))
    · exact .inr (.inr ⟨hd.1, by omega⟩)
theorem Phase.pass {n : Nat} {cs : Nat → CallD} {i : Nat} {G : KV → List Nat} {T : Nat → Bool} (h : Phase n cs i [] G T) (ht : T i = false) : Phase n cs (i + 1) [] G T := by
  refine ⟨h.low, h.ok, h.mem, h.left, fun j hj htj => ?_, h.stack⟩
  rcases h.done j hj htj with hd | hd | hd
  · exact .inl hd
  · exact .inr (.inl hd)
  · refine .inr (.inr ⟨hd.1, ?_⟩)
    have : j ≠ i := fun e => by rw [e, ht] at htj; cases htj
    omega
/-- A write is popped. -/
theorem Phase.pop {n : Nat} {cs : Nat → CallD} {i c : Nat} {L : List Nat} {G : KV → List Nat} {T : Nat → Bool} (h : Phase n cs i (L ++ [c]) G T) (hf : (cs c).f = 2) : Phase n cs i L G T := by
  refine ⟨h.low, h.ok, h.mem, h.left, fun j hj htj => ?_, fun j hj => h.stack j (by simp [hj])⟩
  rcases h.done j hj htj with hd | hd | hd
  · exact .inl hd
  · rcases List.mem_append.1 hd with hd | hd
    · exact .inr (.inl hd)
    · simp at hd; subst hd; exact .inl (.inl hf)
  · exact .inr (.inr hd)
/-- What the map holds when key k is struck. -/
def dropG (G : KV → List Nat) (k : KV) : KV → List Nat := fun k' => if kvEq k k' then [] else G k'
theorem dropG_same (G : KV → List Nat) (k : KV) : dropG G k k = [] := by
  unfold dropG; rw [if_pos ((kvEq_iff k k).2 rfl)]
theorem dropG_other (G : KV → List Nat) {k k' : KV} (h : k' ≠ k) : dropG G k k' = G k' := by
  unfold dropG; rw [if_neg (fun hh => h ((kvEq_iff k k').1 hh).symm)]

/-- A call that is no write is popped: all that it needs is taken and goes on the stack. -/
theorem Phase.take {n : Nat} {cs : Nat → CallD} {i c : Nat} {L : List Nat} {G : KV → List Nat} {T : Nat → Bool} (h : Phase n cs i (L ++ [c]) G T) (hf : (cs c).f ≠ 2) :
    Phase n cs i (L ++ G (needKv (cs c))) (dropG G (needKv (cs c))) (fun j => T j || decide (j ∈ G (needKv (cs c)))) := by
  obtain ⟨hc, htc⟩ := h.stack c (by simp)
  refine ⟨fun S hS j hj ht => ?_, fun j hj ho => by simp [h.ok j hj ho], fun k m hm => ?_, fun m hm hu => ?_, fun j hj ht => ?_, fun j hj => ?_⟩
  · simp only [Bool.or_eq_true, decide_eq_true_eq] at ht
    rcases ht with ht | ht
    · exact h.low S hS j hj ht
    · obtain ⟨h1, h2, h3⟩ := h.mem _ _ ht
      exact hS.step c j hc hj (h.low S hS c hc htc) hf h2 h3
  · by_cases e : k = needKv (cs c)
    · subst e; rw [dropG_same] at hm; cases hm
    · rw [dropG_other G e] at hm; exact h.mem k m hm
  · rcases h.left m hm hu with hl | hl
    · by_cases e : kvOf (cs m) = needKv (cs c)
      · right; rw [e] at hl; simp [hl]
      · left; rw [dropG_other G e]; exact hl
    · right; simp [hl]
  · simp only [Bool.or_eq_true, decide_eq_true_eq] at ht
    rcases ht with ht | ht
    · rcases h.done j hj ht with hd | hd | hd
      · left
        rcases hd with hd | hd
        · exact .inl hd
        · right
          by_cases e : needKv (cs j) = needKv (cs c)
          · rw [e, dropG_same]
          · rw [dropG_other G e]; exact hd
      · rcases List.mem_append.1 hd with hd | hd
        · exact .inr (.inl (List.mem_append.2 (.inl hd)))
        · simp at hd; subst hd; exact .inl (.inr (dropG_same _ _))
      · exact .inr (.inr hd)
    · exact .inr (.inl (List.mem_append.2 (.inr ht)))
  · rcases List.mem_append.1 hj with hj | hj
    · obtain ⟨h1, h2⟩ := h.stack j (by simp [hj])
      exact ⟨h1, by simp [h2]⟩
    · exact ⟨(h.mem _ _ hj).1, by simp [hj]⟩
end Go.Proofs.Ybulkcixi
