/-
  PLAIN: the least closed set of calls. Two least sets agree; what it says of settled calls.
-/
import Derived.Test.YbulkcixiGrp
namespace Go.Proofs.Ybulkcixi
set_option linter.unusedVariables false

def kvOf (c : CallD) : KV := ⟨c.key, c.vn, c.vv⟩
def needKv (c : CallD) : KV := if c.f = 3 then ⟨c.key, c.en, c.ev⟩ else ⟨c.key, c.vn, c.vv⟩
def unkB (c : CallD) : Bool := c.oc == 3 && c.f != 1

structure Closed (n : Nat) (cs : Nat → CallD) (S : Nat → Prop) : Prop where
  ok : ∀ i, i < n → (cs i).oc = 1 → S i
  step : ∀ i j, i < n → j < n → S i → (cs i).f ≠ 2 → unkB (cs j) = true → kvOf (cs j) = needKv (cs i) → S j
structure Least (n : Nat) (cs : Nat → CallD) (T : Nat → Bool) : Prop where
  closed : Closed n cs (fun i => T i = true)
  below : ∀ S, Closed n cs S → ∀ i, i < n → T i = true → S i

theorem Least.agree {n : Nat} {cs : Nat → CallD} {T T' : Nat → Bool} (h : Least n cs T) (h' : Least n cs T') (i : Nat) (hi : i < n) : T i = T' i := by
  cases e : T i with
  | true => exact (h.below _ h'.closed i hi e).symm
  | false =>
    cases e' : T' i with
    | false => rfl
    | true => rw [h'.below _ h.closed i hi e'] at e; cases e

theorem Least.settled {n : Nat} {cs : Nat → CallD} {T : Nat → Bool} (h : Least n cs T) (i : Nat) (hi : i < n) :
    ((cs i).oc = 1 → T i = true) ∧ ((cs i).oc = 2 → T i = false) ∧ ((cs i).oc ≠ 1 → (cs i).f = 1 → T i = false) := by
  have hS : Closed n cs (fun i => (cs i).oc = 1 ∨ unkB (cs i) = true) := ⟨fun i _ ho => .inl ho, fun i j _ _ _ _ hu _ => .inr hu⟩
  refine ⟨fun ho => h.closed.ok i hi ho, fun ho => ?_, fun ho hf => ?_⟩
  · cases e : T i with
    | false => rfl
    | true =>
      rcases h.below _ hS i hi e with h1 | h1
      · rw [ho] at h1; cases h1
      · simp [unkB, ho] at h1
  · cases e : T i with
    | false => rfl
    | true =>
      rcases h.below _ hS i hi e with h1 | h1
      · exact absurd h1 ho
      · simp [unkB, hf] at h1

/-- What the map holds behind i rounds. -/
def G1 (cs : Nat → CallD) : Nat → KV → List Nat
  | 0 => fun _ => []
  | i + 1 => if unkB (cs i) then addG (G1 cs i) (kvOf (cs i)) i else G1 cs i

theorem G1_mem (cs : Nat → CallD) : ∀ (i : Nat) (k : KV) (m : Nat), m ∈ G1 cs i k ↔ m < i ∧ unkB (cs m) = true ∧ kvOf (cs m) = k
  | 0, k, m => by simp [G1]
  | i + 1, k, m => by
    unfold G1
    by_cases hu : unkB (cs i) = true
    · rw [if_pos hu]
      by_cases hk : k = kvOf (cs i)
      · subst hk
        rw [addG_same, List.mem_append, G1_mem cs i]
        constructor
        · rintro (⟨h1, h2, h3⟩ | h1)
          · exact ⟨by omega, h2, h3⟩
          · simp at h1; subst h1; exact ⟨by omega, hu, rfl⟩
        · rintro ⟨h1, h2, h3⟩
          by_cases e : m = i
          · right; simp [e]
          · left; exact ⟨by omega, h2, h3⟩
      · rw [addG_other _ _ hk, G1_mem cs i]
        constructor
        · rintro ⟨h1, h2, h3⟩; exact ⟨by omega, h2, h3⟩
        · rintro ⟨h1, h2, h3⟩
          refine ⟨?_, h2, h3⟩
          by_cases e : m = i
          · subst e; exact absurd h3.symm hk
          · omega
    · rw [if_neg hu, G1_mem cs i]
      constructor
      · rintro ⟨h1, h2, h3⟩; exact ⟨by omega, h2, h3⟩
      · rintro ⟨h1, h2, h3⟩
        refine ⟨?_, h2, h3⟩
        by_cases e : m = i
        · subst e; exact absurd h2 hu
        · omega
theorem G1_len (cs : Nat → CallD) : ∀ (i : Nat) (k : KV), (G1 cs i k).length ≤ i
  | 0, k => by simp [G1]
  | i + 1, k => by
    unfold G1
    by_cases hu : unkB (cs i) = true
    · rw [if_pos hu]
      by_cases hk : k = kvOf (cs i)
      · subst hk
        rw [addG_same]
        have := G1_len cs i (kvOf (cs i))
        simp; omega
      · rw [addG_other _ _ hk]
        have := G1_len cs i k
        omega
    · rw [if_neg hu]
      have := G1_len cs i k
      omega
end Go.Proofs.Ybulkcixi
