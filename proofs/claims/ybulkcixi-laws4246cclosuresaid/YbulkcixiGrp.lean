/-
  The map of slices: each entry's slice owns its own row; one more number at a key.
-/
import Derived.Test.YbulkcixiMap
import Derived.Maps.AppendAt
namespace Go.Proofs.Ybulkcixi
open Go.RowKit
set_option linter.unusedVariables false
set_option linter.unusedSimpArgs false

def ints (l : List Nat) : List Value := l.map fun (m : Nat) => .int .i64 (m : Int)

theorem own_same {w W : World} {base : Nat} {e : TypeId} {size : Nat} {v : Value} {n : Nat} {xs : List Value} (h : w.ownsRow base e size v n xs) (hs : ∀ g, v.ownBlock = some g → W.heap[g]? = w.heap[g]?) : W.ownsRow base e size v n xs := by
  refine ⟨h.1, ?_⟩
  rcases h.2 with h2 | ⟨g, cap, cur, rfl, hb, hg, h3, h4, h5, h6⟩
  · exact .inl h2
  · exact .inr ⟨g, cap, cur, rfl, hb, (hs g rfl).trans hg, h3, h4, h5, h6⟩

structure MapInv (w : World) (M base : Nat) (es : List Ent) (clock : Nat) (G : KV → List Nat) : Prop where
  here : MapAt w M es clock
  keys : ∀ (i j : Nat) (a b : Ent), es[i]? = some a → es[j]? = some b → a.k = b.k → i = j
  borns : ∀ (i j : Nat) (a b : Ent), es[i]? = some a → es[j]? = some b → a.born = b.born → i = j
  old : ∀ (i : Nat) (a : Ent), es[i]? = some a → a.born < clock
  rows : ∀ (i : Nat) (a : Ent), es[i]? = some a → w.ownsRow base 3 1 a.v (G a.k).length (ints (G a.k))
  blocks : ∀ (i j : Nat) (a b : Ent), es[i]? = some a → es[j]? = some b → a.v.ownBlock = b.v.ownBlock → i = j
  pos : ∀ (i : Nat) (a : Ent), es[i]? = some a → G a.k ≠ []
  full : ∀ k, G k ≠ [] → ∃ (i : Nat) (a : Ent), es[i]? = some a ∧ a.k = k

theorem MapInv.kept {w W : World} {M base : Nat} {es : List Ent} {clock : Nat} {G : KV → List Nat} (h : MapInv w M base es clock G) (hM : W.heap[M]? = w.heap[M]?)
    (hr : ∀ (i : Nat) (a : Ent), es[i]? = some a → ∀ g, a.v.ownBlock = some g → W.heap[g]? = w.heap[g]?) : MapInv W M base es clock G :=
  ⟨hM.trans h.here, h.keys, h.borns, h.old, fun i a ha => own_same (h.rows i a ha) (hr i a ha), h.blocks, h.pos, h.full⟩

theorem MapInv.own_lt {w : World} {M base : Nat} {es : List Ent} {clock : Nat} {G : KV → List Nat} (h : MapInv w M base es clock G) {i : Nat} {a : Ent} (ha : es[i]? = some a) {g : Nat} (hg : a.v.ownBlock = some g) : base ≤ g ∧ g < w.heap.size :=
  (h.rows i a ha).lt g hg

theorem MapInv.keptB {w W : World} {M base : Nat} {es : List Ent} {clock : Nat} {G : KV → List Nat} (h : MapInv w M base es clock G) (hs : ∀ b, b < w.heap.size → (b = M ∨ base ≤ b) → W.heap[b]? = w.heap[b]?) : MapInv W M base es clock G :=
  h.kept (hs M (mapAt_lt h.here) (.inl rfl)) fun i a ha g hg => hs g (h.own_lt ha hg).2 (.inr (h.own_lt ha hg).1)

theorem MapInv.none_nil {w : World} {M base : Nat} {es : List Ent} {clock : Nat} {G : KV → List Nat} (h : MapInv w M base es clock G) {k : KV} (hf : findE k es 0 = none) : G k = [] := by
  cases hg : G k with
  | nil => rfl
  | cons a l =>
    obtain ⟨i, e, he, hk⟩ := h.full k (by rw [hg]; simp)
    exact absurd hk (findE_none k es 0 hf e (List.mem_of_getElem? he))

theorem ent_lt {α : Type} {l : List α} {i : Nat} {a : α} (h : l[i]? = some a) : i < l.length := by
  rcases Nat.lt_or_ge i l.length with h' | h'
  · exact h'
  · simp [List.getElem?_eq_none h'] at h
theorem snoc_at {α : Type} {l : List α} {x a : α} {i : Nat} (h : (l ++ [x])[i]? = some a) : l[i]? = some a ∨ (i = l.length ∧ a = x) := by
  rw [List.getElem?_append] at h
  split at h
  · exact .inl h
  · rename_i hi
    right
    have := ent_lt h
    simp at this
    have hi' : i = l.length := by omega
    subst hi'
    simp at h
    exact ⟨rfl, h.symm⟩
theorem set_at {α : Type} {l : List α} {x a : α} {i j : Nat} (hj : j < l.length) (h : (l.set j x)[i]? = some a) : (i = j ∧ a = x) ∨ (i ≠ j ∧ l[i]? = some a) := by
  by_cases e : i = j
  · subst e
    rw [List.getElem?_set_self hj] at h
    exact .inl ⟨rfl, (Option.some.inj h).symm⟩
  · rw [List.getElem?_set_ne (fun h' => e h'.symm)] at h
    exact .inr ⟨e, h⟩

/-- What the map holds when m has come to key k. -/
def addG (G : KV → List Nat) (k : KV) (m : Nat) : KV → List Nat := fun k' => if kvEq k k' then G k ++ [m] else G k'
theorem addG_same (G : KV → List Nat) (k : KV) (m : Nat) : addG G k m k = G k ++ [m] := by
  unfold addG; rw [if_pos ((kvEq_iff k k).2 rfl)]
theorem addG_other (G : KV → List Nat) {k k' : KV} (m : Nat) (h : k' ≠ k) : addG G k m k' = G k' := by
  unfold addG; rw [if_neg (fun hh => h ((kvEq_iff k k').1 hh).symm)]

/-- What may turn while the map is written: the map, and rows from base on. -/
structure KeepB (base M : Nat) (w W : World) : Prop where
  os : W.os = w.os
  tape : W.tape = w.tape
  output : W.output = w.output
  size : w.heap.size ≤ W.heap.size
  low : ∀ b, b < base → b ≠ M → W.heap[b]? = w.heap[b]?

def sliceLen : Value → Nat
  | .slice _ n _ => n
  | _ => 0
theorem own_len {w : World} {base : Nat} {e : TypeId} {size : Nat} {v : Value} {n : Nat} {xs : List Value} (h : w.ownsRow base e size v n xs) : sliceLen v = n := by
  rcases h.2 with ⟨rfl, rfl⟩ | ⟨g, cap, cur, rfl, _⟩ <;> rfl
def entSum (es : List Ent) : Nat := (es.map fun e => sliceLen e.v).sum
theorem sum_set (f : Ent → Nat) : ∀ (l : List Ent) (j : Nat) (a b : Ent), l[j]? = some a → ((l.set j b).map f).sum + f a = (l.map f).sum + f b
  | [], j, a, b, h => by simp at h
  | x :: l, 0, a, b, h => by
    simp at h
    subst h
    simp; omega
  | x :: l, j + 1, a, b, h => by
    have := sum_set f l j a b (by simpa using h)
    simp only [List.set_cons_succ, List.map_cons, List.sum_cons]
    omega

theorem group_step {w : World} {M base : Nat} {es : List Ent} {clock : Nat} {G : KV → List Nat} (h : MapInv w M base es clock G) (hMb : M < base) (hbs : base ≤ w.heap.size) (k : KV) (m : Nat) (hlen : (G k).length ≤ 4096) (t ty : TypeId) :
    ∃ v st W2 v' W3 W4 es' clock', (Instr.mapEntry 45 (.map (some M)) (kvV k)).run Yba.prog (w.alloc (.cells #[.int .i64 (m : Int)] t)) = .ok (.tuple #[v, .int .i64 (st : Int)]) W2 ∧
      (Builtin.append_ #[48, 48] ty #[v, .slice (some ⟨w.heap.size, 0, none⟩) 1 1]).run Yba.prog W2 = .ok v' W3 ∧ (Instr.entryStore 45 (.map (some M)) (.int .i64 (st : Int)) v').run Yba.prog W3 = .ok () W4 ∧
      MapInv W4 M base es' clock' (addG G k m) ∧ KeepB base M w W4 ∧ entSum es' = entSum es + 1 := by
  obtain ⟨i0, hi, hz0, hz1, hz2⟩ := info_parts Yba.inf3
  obtain ⟨w1, hw1⟩ : ∃ w1, w.alloc (.cells #[.int .i64 (m : Int)] t) = w1 := ⟨_, rfl⟩
  rw [hw1]
  have hs1 : w1.heap.size = w.heap.size + 1 := by rw [← hw1]; simp
  have ho1 : ∀ b, b < w.heap.size → w1.heap[b]? = w.heap[b]? := fun b hb => by rw [← hw1]; exact Below.heap_alloc w _ b hb
  have hc1 : ∀ j u, [Value.int .i64 (m : Int)][j]? = some u → w1.cell? ((⟨w.heap.size, 0, none⟩ : Addr).add j) = some u := by rw [← hw1]; exact cell_one_new w _ t
  have hg1 : w1.os = w.os ∧ w1.tape = w.tape ∧ w1.output = w.output := by rw [← hw1]; exact ⟨rfl, rfl, rfl⟩
  have h1 : MapInv w1 M base es clock G := h.keptB fun b hb _ => ho1 b hb
  have hints : ints (G k ++ [m]) = ints (G k) ++ [Value.int .i64 (m : Int)] := by simp [ints]
  have hone : ∀ u ∈ [Value.int .i64 (m : Int)], u.oneCell' = true := by simp [Value.oneCell']
  cases hf : findE k es 0 with
  | none =>
    have hG := h1.none_nil hf
    have hne := findE_none k es 0 hf
    obtain ⟨W2, hrun2, ht2, hm2⟩ := run_entry_new h1.here hf
    have hcell2 : ∀ j u, [Value.int .i64 (m : Int)][j]? = some u → W2.cell? ((⟨w.heap.size, 0, none⟩ : Addr).add j) = some u := fun j u hu => by
      rw [← hc1 j u hu]
      refine World.cell?_of_block ?_
      have hb : ((⟨w.heap.size, 0, none⟩ : Addr).add j).block = w.heap.size := by rw [Addr.add_mid]
      rw [hb]
      exact ht2.other _ (by omega)
    obtain ⟨v', W3, hrun3, hown3, hgr3, hnil3, hloc3⟩ := run_append_own_at (P := Yba.prog) W2 base 48 ty 3 i0 (.int .i64 0) 1 8 Yba.underlying48 hi hz0 hz1 hz2 rfl (by decide) (.slice none 0 0) 0 [] (World.ownsRow_nil _ _ _ _) ⟨w.heap.size, 0, none⟩ 1 1 [.int .i64 (m : Int)] rfl hcell2 hone (by unfold maxLen; omega) (by omega) (by rw [ht2.size]; omega)
    have hv' : v'.ownBlock = some W2.heap.size := by
      rcases hloc3 with hl | hl
      · exfalso
        rcases hown3.2 with ⟨_, h0⟩ | ⟨g, cap, cur, rfl, _⟩
        · omega
        · simp [Value.ownBlock] at hl
      · exact hl
    have hm3 : MapAt W3 M (es ++ [⟨k, .slice none 0 0, clock⟩]) (clock + 1) := by
      unfold MapAt at hm2 ⊢
      rw [hgr3.block M (by rw [ht2.size]; omega) (by simp [Value.ownBlock]), hm2]
    have hj : (es ++ [({ k := k, v := .slice none 0 0, born := clock } : Ent)])[es.length]? = some ⟨k, .slice none 0 0, clock⟩ := by simp
    obtain ⟨W4, hrun4, ht4, hm4⟩ := run_entry_store v' hm3 hj (by
      intro i e' he' hb
      rcases snoc_at he' with he | ⟨rfl, _⟩
      · have := h1.old i e' he
        simp at hb
        omega
      · rfl)
    have hset : (es ++ [({ k := k, v := .slice none 0 0, born := clock } : Ent)]).set es.length { k := k, v := v', born := clock } = es ++ [{ k := k, v := v', born := clock }] := by simp
    rw [hset] at hm4
    have hsame : ∀ b, b < w.heap.size → b ≠ M → W4.heap[b]? = w.heap[b]? := fun b hb hbM => by
      rw [ht4.other b hbM, hgr3.block b (by rw [ht2.size]; omega) (by simp [Value.ownBlock]), ht2.other b hbM, ho1 b hb]
    refine ⟨_, clock, W2, v', W3, W4, es ++ [⟨k, v', clock⟩], clock + 1, hrun2, hrun3, hrun4, ?_, ?_, ?_⟩
    · refine ⟨hm4, fun i j a b ha hb hab => ?_, fun i j a b ha hb hab => ?_, fun i a ha => ?_, fun i a ha => ?_, fun i j a b ha hb hab => ?_, fun i a ha => ?_, fun k' hk' => ?_⟩
      · rcases snoc_at ha with ha | ⟨rfl, rfl⟩
        · rcases snoc_at hb with hb | ⟨rfl, rfl⟩
          · exact h1.keys i j a b ha hb hab
          · exact absurd hab (hne a (List.mem_of_getElem? ha))
        · rcases snoc_at hb with hb | ⟨rfl, rfl⟩
          · exact absurd hab.symm (hne b (List.mem_of_getElem? hb))
          · rfl
      · rcases snoc_at ha with ha | ⟨rfl, rfl⟩
        · rcases snoc_at hb with hb | ⟨rfl, rfl⟩
          · exact h1.borns i j a b ha hb hab
          · have := h1.old i a ha
            simp at hab; omega
        · rcases snoc_at hb with hb | ⟨rfl, rfl⟩
          · have := h1.old j b hb
            simp at hab; omega
          · rfl
      · rcases snoc_at ha with ha | ⟨rfl, rfl⟩
        · have := h1.old i a ha; omega
        · simp
      · rcases snoc_at ha with ha | ⟨rfl, rfl⟩
        · rw [addG_other G m (hne a (List.mem_of_getElem? ha))]
          exact own_same (h.rows i a ha) fun g hg => hsame g (h.own_lt ha hg).2 (by have := (h.own_lt ha hg).1; omega)
        · rw [show (({ k := k, v := v', born := clock } : Ent)).k = k from rfl, addG_same, hints, hG]
          refine own_same hown3 fun g hg => ?_
          have : g = W2.heap.size := by
            have := hv'.symm.trans hg
            exact (Option.some.inj this).symm
          exact ht4.other g (by rw [this, ht2.size]; omega)
      · rcases snoc_at ha with ha | ⟨rfl, rfl⟩
        · rcases snoc_at hb with hb | ⟨rfl, rfl⟩
          · exact h1.blocks i j a b ha hb hab
          · exfalso
            have hab' : a.v.ownBlock = some W2.heap.size := hab.trans hv'
            have := (h.own_lt ha hab').2
            rw [ht2.size] at this; omega
        · rcases snoc_at hb with hb | ⟨rfl, rfl⟩
          · exfalso
            have hab' : b.v.ownBlock = some W2.heap.size := hab.symm.trans hv'
            have := (h.own_lt hb hab').2
            rw [ht2.size] at this; omega
          · rfl
      · rcases snoc_at ha with ha | ⟨rfl, rfl⟩
        · rw [addG_other G m (hne a (List.mem_of_getElem? ha))]; exact h1.pos i a ha
        · rw [show (({ k := k, v := v', born := clock } : Ent)).k = k from rfl, addG_same]; simp
      · by_cases e : k' = k
        · subst e
          exact ⟨es.length, ⟨k', v', clock⟩, by simp, rfl⟩
        · rw [addG_other G m e] at hk'
          obtain ⟨i, a, ha, hka⟩ := h1.full k' hk'
          exact ⟨i, a, by rw [List.getElem?_append_left (ent_lt ha)]; exact ha, hka⟩
    · refine ⟨?_, ?_, ?_, ?_, fun b hb hbM => hsame b (by omega) hbM⟩
      · rw [ht4.os, hgr3.os, ht2.os, hg1.1]
      · rw [ht4.tape, hgr3.tape, ht2.tape, hg1.2.1]
      · rw [ht4.output, hgr3.output, ht2.output, hg1.2.2]
      · have := hgr3.size
        rw [ht4.size]
        rw [ht2.size] at this; omega
    · have := own_len hown3
      simp [entSum, this]
  | some p =>
    obtain ⟨j, v⟩ := p
    obtain ⟨W2, e, he, hk, hv, hrun2, ht2, hm2⟩ := run_entry_old h1.here hf
    subst hk hv
    have hjl := ent_lt he
    have hown2 : W2.ownsRow base 3 1 e.v (G e.k).length (ints (G e.k)) := own_same (h1.rows j e he) fun g hg => ht2.other g (by have := (h1.own_lt he hg).1; omega)
    have hcell2 : ∀ j u, [Value.int .i64 (m : Int)][j]? = some u → W2.cell? ((⟨w.heap.size, 0, none⟩ : Addr).add j) = some u := fun j u hu => by
      rw [← hc1 j u hu]
      refine World.cell?_of_block ?_
      have hb : ((⟨w.heap.size, 0, none⟩ : Addr).add j).block = w.heap.size := by rw [Addr.add_mid]
      rw [hb]
      exact ht2.other _ (by omega)
    obtain ⟨v', W3, hrun3, hown3, hgr3, hnil3, hloc3⟩ := run_append_own_at (P := Yba.prog) W2 base 48 ty 3 i0 (.int .i64 0) 1 8 Yba.underlying48 hi hz0 hz1 hz2 rfl (by decide) e.v (G e.k).length (ints (G e.k)) hown2 ⟨w.heap.size, 0, none⟩ 1 1 [.int .i64 (m : Int)] rfl hcell2 hone (by unfold maxLen; omega) (by omega) (by rw [ht2.size]; omega)
    have hMown : some M ≠ e.v.ownBlock := fun hh => by
      have := (h1.own_lt he hh.symm).1
      omega
    have hm3 : MapAt W3 M es clock := by
      unfold MapAt at hm2 ⊢
      rw [hgr3.block M (by rw [ht2.size]; omega) hMown, hm2]
    obtain ⟨W4, hrun4, ht4, hm4⟩ := run_entry_store v' hm3 he (fun i e' he' hb => h1.borns i j e' e he' he hb)
    have hsame : ∀ b, b < w.heap.size → b ≠ M → some b ≠ e.v.ownBlock → W4.heap[b]? = w.heap[b]? := fun b hb hbM hbo => by
      rw [ht4.other b hbM, hgr3.block b (by rw [ht2.size]; omega) hbo, ht2.other b hbM, ho1 b hb]
    have hlow : ∀ b, b < base → some b ≠ e.v.ownBlock := fun b hb hh => by
      have := (h1.own_lt he hh.symm).1
      omega
    refine ⟨_, e.born, W2, v', W3, W4, es.set j { e with v := v' }, clock, hrun2, hrun3, hrun4, ?_, ?_, ?_⟩
    · refine ⟨hm4, fun i i' a b ha hb hab => ?_, fun i i' a b ha hb hab => ?_, fun i a ha => ?_, fun i a ha => ?_, fun i i' a b ha hb hab => ?_, fun i a ha => ?_, fun k' hk' => ?_⟩
      · rcases set_at hjl ha with ⟨rfl, rfl⟩ | ⟨hi, ha'⟩
        · rcases set_at hjl hb with ⟨rfl, rfl⟩ | ⟨hi', hb'⟩
          · rfl
          · exact h1.keys _ _ e b he hb' hab
        · rcases set_at hjl hb with ⟨rfl, rfl⟩ | ⟨hi', hb'⟩
          · exact h1.keys _ _ a e ha' he hab
          · exact h1.keys _ _ a b ha' hb' hab
      · rcases set_at hjl ha with ⟨rfl, rfl⟩ | ⟨hi, ha'⟩
        · rcases set_at hjl hb with ⟨rfl, rfl⟩ | ⟨hi', hb'⟩
          · rfl
          · exact h1.borns _ _ e b he hb' hab
        · rcases set_at hjl hb with ⟨rfl, rfl⟩ | ⟨hi', hb'⟩
          · exact h1.borns _ _ a e ha' he hab
          · exact h1.borns _ _ a b ha' hb' hab
      · rcases set_at hjl ha with ⟨rfl, rfl⟩ | ⟨hi, ha'⟩
        · exact h1.old _ e he
        · exact h1.old i a ha'
      · rcases set_at hjl ha with ⟨rfl, rfl⟩ | ⟨hi, ha'⟩
        · rw [show (({ e with v := v' } : Ent)).k = e.k from rfl, addG_same, hints]
          have : (G e.k ++ [m]).length = (G e.k).length + 1 := by simp
          rw [this]
          refine own_same hown3 fun g hg => ht4.other g ?_
          have := (hown3.lt g hg).1
          omega
        · have hka : a.k ≠ e.k := fun hh => hi (h1.keys i j a e ha' he hh)
          rw [addG_other G m hka]
          refine own_same (h.rows i a ha') fun g hg => hsame g (h.own_lt ha' hg).2 (by have := (h.own_lt ha' hg).1; omega) fun hh => hi (h1.blocks i j a e ha' he (hg.trans hh))
      · have key : ∀ (i : Nat) (a : Ent), es[i]? = some a → i ≠ j → a.v.ownBlock ≠ v'.ownBlock := fun i a ha hi hh => by
          rcases hloc3 with hl | hl
          · exact hi (h1.blocks i j a e ha he (hh.trans hl))
          · have := (h.own_lt ha (hh.trans hl)).2
            rw [ht2.size] at this; omega
        rcases set_at hjl ha with ⟨rfl, rfl⟩ | ⟨hi, ha'⟩
        · rcases set_at hjl hb with ⟨rfl, rfl⟩ | ⟨hi', hb'⟩
          · rfl
          · exact absurd hab.symm (key i' b hb' hi')
        · rcases set_at hjl hb with ⟨rfl, rfl⟩ | ⟨hi', hb'⟩
          · exact absurd hab (key i a ha' hi)
          · exact h1.blocks _ _ a b ha' hb' hab
      · rcases set_at hjl ha with ⟨rfl, rfl⟩ | ⟨hi, ha'⟩
        · rw [show (({ e with v := v' } : Ent)).k = e.k from rfl, addG_same]; simp
        · have hka : a.k ≠ e.k := fun hh => hi (h1.keys i j a e ha' he hh)
          rw [addG_other G m hka]; exact h1.pos i a ha'
      · by_cases ek : k' = e.k
        · subst ek
          exact ⟨j, { e with v := v' }, by rw [List.getElem?_set_self hjl], rfl⟩
        · rw [addG_other G m ek] at hk'
          obtain ⟨i, a, ha, hka⟩ := h1.full k' hk'
          have hij : i ≠ j := fun hh => by
            subst hh
            rw [he] at ha
            obtain rfl := Option.some.inj ha
            exact ek hka.symm
          exact ⟨i, a, by rw [List.getElem?_set_ne (fun h' => hij h'.symm)]; exact ha, hka⟩
    · refine ⟨?_, ?_, ?_, ?_, fun b hb hbM => hsame b (by omega) hbM (hlow b hb)⟩
      · rw [ht4.os, hgr3.os, ht2.os, hg1.1]
      · rw [ht4.tape, hgr3.tape, ht2.tape, hg1.2.1]
      · rw [ht4.output, hgr3.output, ht2.output, hg1.2.2]
      · have := hgr3.size
        rw [ht4.size]
        rw [ht2.size] at this; omega
    · have h1' := sum_set (fun e => sliceLen e.v) es j e { e with v := v' } he
      have h2' := own_len hown3
      have h3' := own_len hown2
      unfold entSum
      simp only at h1' h2' h3'
      omega
end Go.Proofs.Ybulkcixi
