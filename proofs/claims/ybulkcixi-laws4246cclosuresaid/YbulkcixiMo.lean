/-
  PLAIN: the model's queue. Its memory: one more number on a queue.
-/
import Derived.Test.YbulkcixiTk
namespace Go.Proofs.Ybulkcixi
open Go.RowKit
set_option linter.unusedVariables false

/-- How many are not taken. -/
def free (T : Nat → Bool) : Nat → Nat
  | 0 => 0
  | n + 1 => free T n + (if T n then 0 else 1)
theorem free_same {T T' : Nat → Bool} : ∀ (n : Nat), (∀ j, j < n → T j = T' j) → free T n = free T' n
  | 0, _ => rfl
  | n + 1, h => by
    unfold free
    rw [free_same n (fun j hj => h j (by omega)), h n (by omega)]
/-- e is taken too. -/
def withT (T : Nat → Bool) (e : Nat) : Nat → Bool := fun j => T j || j == e
theorem free_with {T : Nat → Bool} {e : Nat} (he : T e = false) : ∀ (n : Nat), e < n → free (withT T e) n + 1 = free T n
  | 0, h => by omega
  | n + 1, h => by
    unfold free
    by_cases hn : n = e
    · subst hn
      rw [free_same (T := withT T n) (T' := T) n (fun j hj => by have : (j == n) = false := by simp; omega
                                                                 simp [withT, this])]
      simp [withT, he]
    · have h1 := free_with he n (by omega)
      have h2 : withT T e n = T n := by
        have : (n == e) = false := by simp [hn]
        simp [withT, this]
      rw [h2]
      omega
theorem free_none : ∀ (n : Nat), free (fun _ => false) n = n
  | 0 => rfl
  | n + 1 => by simp [free, free_none n]
theorem withT_same (T : Nat → Bool) (e : Nat) : withT T e e = true := by simp [withT]
theorem withT_of {T : Nat → Bool} {e j : Nat} (h : T j = true) : withT T e j = true := by simp [withT, h]
theorem withT_iff (T : Nat → Bool) (e j : Nat) : withT T e j = true ↔ T j = true ∨ j = e := by simp [withT]

/-- Behind i rounds of the model's first loop. -/
structure MStart (n : Nat) (cs : Nat → CallD) (i : Nat) (Q : List Nat) (T : Nat → Bool) : Prop where
  taken : ∀ j, T j = true ↔ j < i ∧ (cs j).oc = 1
  mem : ∀ j, j ∈ Q ↔ T j = true
  len : Q.length + free T n = n
theorem MStart.zero {n : Nat} {cs : Nat → CallD} : MStart n cs 0 [] (fun _ => false) :=
  ⟨fun j => by simp, fun j => by simp, by rw [free_none]; simp⟩
theorem MStart.yes {n : Nat} {cs : Nat → CallD} {i : Nat} {Q : List Nat} {T : Nat → Bool} (h : MStart n cs i Q T) (hi : i < n) (ho : (cs i).oc = 1) : MStart n cs (i + 1) (Q ++ [i]) (withT T i) := by
  have hf : T i = false := by
    cases e : T i with
    | false => rfl
    | true => have := ((h.taken i).1 e).1; omega
  refine ⟨fun j => ?_, fun j => ?_, ?_⟩
  · rw [withT_iff, h.taken j]
    constructor
    · rintro (⟨h1, h2⟩ | rfl)
      · exact ⟨by omega, h2⟩
      · exact ⟨by omega, ho⟩
    · rintro ⟨h1, h2⟩
      by_cases e : j = i
      · exact .inr e
      · exact .inl ⟨by omega, h2⟩
  · rw [withT_iff, List.mem_append, h.mem j]; simp
  · have h1 := free_with hf n hi
    have h2 := h.len
    simp; omega
theorem MStart.no {n : Nat} {cs : Nat → CallD} {i : Nat} {Q : List Nat} {T : Nat → Bool} (h : MStart n cs i Q T) (ho : (cs i).oc ≠ 1) : MStart n cs (i + 1) Q T := by
  refine ⟨fun j => ?_, h.mem, h.len⟩
  rw [h.taken j]
  constructor
  · rintro ⟨h1, h2⟩
    exact ⟨by omega, h2⟩
  · rintro ⟨h1, h2⟩
    have : j ≠ i := fun e => by rw [e] at h2; exact ho h2
    exact ⟨by omega, h2⟩

/-- Between the model's steps: h: how far the queue is read. -/
structure MPh (n : Nat) (cs : Nat → CallD) (h : Nat) (Q : List Nat) (T : Nat → Bool) : Prop where
  low : ∀ S, Closed n cs S → ∀ j, j < n → T j = true → S j
  ok : ∀ j, j < n → (cs j).oc = 1 → T j = true
  mem : ∀ j, j ∈ Q ↔ j < n ∧ T j = true
  done : ∀ (p i : Nat), p < h → Q[p]? = some i → (cs i).f ≠ 2 → ∀ j, j < n → unkB (cs j) = true → kvOf (cs j) = needKv (cs i) → T j = true
  len : Q.length + free T n = n
theorem MStart.phase {n : Nat} {cs : Nat → CallD} {Q : List Nat} {T : Nat → Bool} (h : MStart n cs n Q T) : MPh n cs 0 Q T :=
  ⟨fun S hS j hj ht => hS.ok j hj ((h.taken j).1 ht).2, fun j hj ho => (h.taken j).2 ⟨hj, ho⟩, fun j => by
    rw [h.mem j]
    exact ⟨fun ht => ⟨((h.taken j).1 ht).1, ht⟩, fun ht => ht.2⟩, fun p i hp => by omega, h.len⟩
theorem MPh.finish {n : Nat} {cs : Nat → CallD} {Q : List Nat} {T : Nat → Bool} (h : MPh n cs Q.length Q T) : Least n cs T := by
  refine ⟨⟨h.ok, fun i j hi hj ht hf hu hk => ?_⟩, h.low⟩
  obtain ⟨p, hp, hpe⟩ := List.getElem_of_mem ((h.mem i).2 ⟨hi, ht⟩)
  exact h.done p i hp (by simp [hp, hpe]) hf j hj hu hk
/-- A write is passed. -/
theorem MPh.write {n : Nat} {cs : Nat → CallD} {h c : Nat} {Q : List Nat} {T : Nat → Bool} (m : MPh n cs h Q T) (hc : Q[h]? = some c) (hf : (cs c).f = 2) : MPh n cs (h + 1) Q T :=
  ⟨m.low, m.ok, m.mem, fun p i hp hq hfi => by
    by_cases e : p = h
    · subst e
      rw [hc] at hq
      obtain rfl := Option.some.inj hq
      exact absurd hf hfi
    · exact m.done p i (by omega) hq hfi, m.len⟩

/-- Inside: the first j are looked at for call c. -/
structure MIn (n : Nat) (cs : Nat → CallD) (h c j : Nat) (Q : List Nat) (T : Nat → Bool) : Prop where
  ph : MPh n cs h Q T
  at_ : Q[h]? = some c
  seen : ∀ m, m < j → unkB (cs m) = true → kvOf (cs m) = needKv (cs c) → T m = true
theorem MIn.out {n : Nat} {cs : Nat → CallD} {h c : Nat} {Q : List Nat} {T : Nat → Bool} (m : MIn n cs h c n Q T) : MPh n cs (h + 1) Q T :=
  ⟨m.ph.low, m.ph.ok, m.ph.mem, fun p i hp hq hfi => by
    by_cases e : p = h
    · subst e
      rw [m.at_] at hq
      obtain rfl := Option.some.inj hq
      exact m.seen
    · exact m.ph.done p i (by omega) hq hfi, m.ph.len⟩
theorem MIn.no {n : Nat} {cs : Nat → CallD} {h c j : Nat} {Q : List Nat} {T : Nat → Bool} (m : MIn n cs h c j Q T) (hj : T j = true ∨ unkB (cs j) = false ∨ kvOf (cs j) ≠ needKv (cs c)) : MIn n cs h c (j + 1) Q T :=
  ⟨m.ph, m.at_, fun i hi hu hk => by
    by_cases e : i = j
    · subst e
      rcases hj with hj | hj | hj
      · exact hj
      · rw [hj] at hu; cases hu
      · exact absurd hk hj
    · exact m.seen i (by omega) hu hk⟩
theorem MIn.yes {n : Nat} {cs : Nat → CallD} {h c j : Nat} {Q : List Nat} {T : Nat → Bool} (m : MIn n cs h c j Q T) (hj : j < n) (hf : (cs c).f ≠ 2) (ht : T j = false) (hu : unkB (cs j) = true) (hk : kvOf (cs j) = needKv (cs c)) : MIn n cs h c (j + 1) (Q ++ [j]) (withT T j) := by
  obtain ⟨hcn, hct⟩ := (m.ph.mem c).1 (List.mem_of_getElem? m.at_)
  have hlt : h < Q.length := ent_lt m.at_
  have hold : ∀ (p : Nat), p ≤ h → (Q ++ [j])[p]? = Q[p]? := fun p hp => by rw [List.getElem?_append_left (by omega)]
  refine ⟨⟨fun S hS i hi hti => ?_, fun i hi ho => withT_of (m.ph.ok i hi ho), fun i => ?_, fun p i hp hq hfi i' hi' hu' hk' => ?_, ?_⟩, by rw [hold h (by omega)]; exact m.at_, fun i hi hui hki => ?_⟩
  · rcases (withT_iff T j i).1 hti with h1 | rfl
    · exact m.ph.low S hS i hi h1
    · exact hS.step c i hcn hi (m.ph.low S hS c hcn hct) hf hu hk
  · rw [withT_iff, List.mem_append, m.ph.mem i]
    constructor
    · rintro (⟨h1, h2⟩ | h1)
      · exact ⟨h1, .inl h2⟩
      · simp at h1; subst h1; exact ⟨hj, .inr rfl⟩
    · rintro ⟨h1, h2 | rfl⟩
      · exact .inl ⟨h1, h2⟩
      · right; simp
  · rw [hold p (by omega)] at hq
    exact withT_of (m.ph.done p i hp hq hfi i' hi' hu' hk')
  · have h1 := free_with ht n hj
    have h2 := m.ph.len
    simp; omega
  · by_cases e : i = j
    · subst e; exact withT_same T i
    · exact withT_of (m.seen i (by omega) hui hki)

/-! ### the queue's memory -/
structure KeepQ (v : Value) (w W : World) : Prop where
  os : W.os = w.os
  tape : W.tape = w.tape
  output : W.output = w.output
  size : w.heap.size ≤ W.heap.size
  same : ∀ g, g < w.heap.size → some g ≠ v.ownBlock → W.heap[g]? = w.heap[g]?

theorem queue_push {w : World} {base : Nat} {v : Value} {Q : List Nat} (ho : w.ownsRow base 3 1 v Q.length (ints Q)) (hbs : base ≤ w.heap.size) (hL : Q.length ≤ 4096) (m : Nat) (t ty : TypeId) :
    ∃ v' W, (Builtin.append_ #[48, 48] ty #[v, .slice (some ⟨w.heap.size, 0, none⟩) 1 1]).run Yba.prog (w.alloc (.cells #[.int .i64 (m : Int)] t)) = .ok v' W ∧ W.ownsRow base 3 1 v' (Q ++ [m]).length (ints (Q ++ [m])) ∧ KeepQ v w W := by
  obtain ⟨i0, hi, hz0, hz1, hz2⟩ := info_parts Yba.inf3
  obtain ⟨w1, hw1⟩ : ∃ w1, w.alloc (.cells #[.int .i64 (m : Int)] t) = w1 := ⟨_, rfl⟩
  rw [hw1]
  have hs1 : w1.heap.size = w.heap.size + 1 := by rw [← hw1]; simp
  have ho1 : ∀ b, b < w.heap.size → w1.heap[b]? = w.heap[b]? := fun b hb => by rw [← hw1]; exact Below.heap_alloc w _ b hb
  have hc1 : ∀ j u, [Value.int .i64 (m : Int)][j]? = some u → w1.cell? ((⟨w.heap.size, 0, none⟩ : Addr).add j) = some u := by rw [← hw1]; exact cell_one_new w _ t
  have hg1 : w1.os = w.os ∧ w1.tape = w.tape ∧ w1.output = w.output := by rw [← hw1]; exact ⟨rfl, rfl, rfl⟩
  have hone : ∀ u ∈ [Value.int .i64 (m : Int)], u.oneCell' = true := by simp [Value.oneCell']
  have hown1 : w1.ownsRow base 3 1 v Q.length (ints Q) := own_same ho fun g hg => ho1 g (ho.lt g hg).2
  obtain ⟨v', W, hrun, hown, hgr, hnil, hloc⟩ := run_append_own_at (P := Yba.prog) w1 base 48 ty 3 i0 (.int .i64 0) 1 8 Yba.underlying48 hi hz0 hz1 hz2 rfl (by decide) v Q.length (ints Q) hown1 ⟨w.heap.size, 0, none⟩ 1 1 [.int .i64 (m : Int)] rfl hc1 hone (by unfold maxLen; omega) (by omega) (by omega)
  refine ⟨v', W, hrun, ?_, by rw [hgr.os, hg1.1], by rw [hgr.tape, hg1.2.1], by rw [hgr.output, hg1.2.2], ?_, fun g hg hne => by rw [hgr.block g (by omega) hne, ho1 g hg]⟩
  · have e1 : ints (Q ++ [m]) = ints Q ++ [Value.int .i64 (m : Int)] := by simp [ints]
    have e2 : (Q ++ [m]).length = Q.length + 1 := by simp
    rw [e1, e2]
    exact hown
  · have := hgr.size
    omega

theorem row_apart' {w : World} {base h : Nat} {v : Value} {n m : Nat} {t : TypeId} {xs : List Value} {F : Nat → Value → Prop} (ht : t ≠ 3) (hr : Row w h t m F) (ho : w.ownsRow base 3 1 v n xs) : some h ≠ v.ownBlock := by
  obtain ⟨xs', h1, _, _⟩ := hr.row
  rcases ho.2 with ⟨rfl, rfl⟩ | ⟨g, cap, cur, rfl, _, hg, _⟩
  · simp [Value.ownBlock]
  · intro hh
    simp only [Value.ownBlock, Option.some.injEq] at hh
    subst hh
    rw [h1] at hg
    simp at hg
    exact ht hg.2
theorem KeepQ.row {v : Value} {w W : World} {base h : Nat} {n m : Nat} {t : TypeId} {xs : List Value} {F : Nat → Value → Prop} (k : KeepQ v w W) (ht : t ≠ 3) (hr : Row w h t m F) (ho : w.ownsRow base 3 1 v n xs) : Row W h t m F :=
  hr.of_heap (k.same h hr.lt (row_apart' ht hr ho))
theorem KeepQ.below {v : Value} {w W : World} {base : Nat} {n : Nat} {xs : List Value} (k : KeepQ v w W) (ho : w.ownsRow base 3 1 v n xs) (hb : base ≤ w.heap.size) : Below base w W :=
  ⟨k.os, k.tape, k.output, k.size, fun b hbb => k.same b (by omega) fun hh => by have := (ho.lt b hh.symm).1; omega⟩

theorem make_queue (n : Nat) (hn : n ≤ 1024) (w : World) (base : Nat) (hb : base ≤ w.heap.size) : ∃ W, (Instr.makeSlice 48 (.int .i64 0) (.int .i64 n)).run Yba.prog w = .ok (.slice (some ⟨w.heap.size, 0, none⟩) 0 n) W ∧ Below w.heap.size w W ∧ W.heap.size = w.heap.size + 1 ∧ W.ownsRow base 3 1 (.slice (some ⟨w.heap.size, 0, none⟩) 0 n) 0 (ints []) := by
  obtain ⟨i, hi, hz0, hz1, hz2⟩ := info_parts Yba.inf3
  have h := run_make (P := Yba.prog) w 48 3 i _ Yba.underlying48 hi hz0 .i64 .i64 0 n (by omega) (by omega) (by rw [hz2]; omega) (by omega)
  have e : (Value.int .i64 0).cells = #[.int .i64 0] := rfl
  refine ⟨w.alloc (.cells (madeCells #[.int .i64 0] n) 3), by simpa [hz1, e] using h, (Below.refl _ _).alloc (Nat.le_refl _) _, by simp, ?_⟩
  exact World.ownsRow_made w (madeCells #[.int .i64 0] n) n hb (by unfold maxLen; omega) (by rw [size_madeCells]; omega)
end Go.Proofs.Ybulkcixi
