/-
  The map read and struck at a key.
-/
import Derived.Test.YbulkcixiNd
namespace Go.Proofs.Ybulkcixi
open Go.RowKit
set_option linter.unusedVariables false
set_option linter.unusedSimpArgs false

/-- The slice at a key owns what the map holds there. -/
theorem MapInv.look {w : World} {M base : Nat} {es : List Ent} {clock : Nat} {G : KV → List Nat} (h : MapInv w M base es clock G) (k : KV) :
    ∃ v, (Instr.lookup 45 (.map (some M)) (kvV k) false).run Yba.prog w = .ok v w ∧ w.ownsRow base 3 1 v (G k).length (ints (G k)) ∧ (v.ownBlock = none ∨ ∃ (i : Nat) (a : Ent), es[i]? = some a ∧ a.v = v) := by
  refine ⟨_, run_look h.here, ?_⟩
  cases hf : findE k es 0 with
  | none =>
    rw [h.none_nil hf]
    exact ⟨World.ownsRow_nil _ _ _ _, .inl rfl⟩
  | some p =>
    obtain ⟨j, v⟩ := p
    obtain ⟨e, _, he, hk, hv⟩ := findE_spec k es 0 j v hf
    rw [Nat.sub_zero] at he
    subst hk hv
    exact ⟨h.rows j e he, .inr ⟨j, e, he, rfl⟩⟩

theorem erase_at {α : Type} {l : List α} {i j : Nat} {a : α} (h : (l.eraseIdx j)[i]? = some a) : ∃ i', l[i']? = some a ∧ i' ≠ j ∧ ((i < j ∧ i' = i) ∨ (j ≤ i ∧ i' = i + 1)) := by
  rw [List.getElem?_eraseIdx] at h
  split at h
  · exact ⟨i, h, by omega, .inl ⟨by omega, rfl⟩⟩
  · exact ⟨i + 1, h, by omega, .inr ⟨by omega, rfl⟩⟩

theorem sum_erase (f : Ent → Nat) : ∀ (l : List Ent) (j : Nat) (a : Ent), l[j]? = some a → ((l.eraseIdx j).map f).sum + f a = (l.map f).sum
  | [], j, a, h => by simp at h
  | x :: l, 0, a, h => by
    simp at h
    subst h
    simp; omega
  | x :: l, j + 1, a, h => by
    have := sum_erase f l j a (by simpa using h)
    simp only [List.eraseIdx_cons_succ, List.map_cons, List.sum_cons]
    omega
/-- How many numbers the map's slices hold, off the world. -/
def mapSum (w : World) (M : Nat) : Nat :=
  match w.heap[M]? with
  | some (.map es _) => (es.toList.map fun e => sliceLen e.val).sum
  | _ => 0
theorem mapSum_at {w : World} {M : Nat} {es : List Ent} {clock : Nat} (h : MapAt w M es clock) : mapSum w M = entSum es := by
  unfold mapSum
  unfold MapAt mapObj at h
  rw [h]
  simp only [List.map_map, entSum]
  rfl

theorem MapInv.drop {w : World} {M base : Nat} {es : List Ent} {clock : Nat} {G : KV → List Nat} (h : MapInv w M base es clock G) (hMb : M < base) (k : KV) (ty : TypeId) :
    ∃ W es', (Builtin.delete_ #[45, 47] ty #[.map (some M), kvV k]).run Yba.prog w = .ok (.tuple #[]) W ∧ Turn M w W ∧ MapInv W M base es' clock (dropG G k) ∧ (∀ (i : Nat) (a : Ent), es'[i]? = some a → ∃ i' : Nat, es[i']? = some a) ∧ entSum es' + (G k).length = entSum es := by
  obtain ⟨W, hrun, ht, hm⟩ := run_drop ty h.here (k := k)
  have hrow : ∀ (i : Nat) (a : Ent), es[i]? = some a → W.ownsRow base 3 1 a.v (G a.k).length (ints (G a.k)) := fun i a ha =>
    own_same (h.rows i a ha) fun g hg => ht.other g (by have := (h.own_lt ha hg).1; omega)
  cases hf : findE k es 0 with
  | none =>
    rw [hf] at hm
    have hG := h.none_nil hf
    have he : dropG G k = G := by
      funext k'
      by_cases e : k' = k
      · subst e; rw [dropG_same, hG]
      · exact dropG_other G e
    exact ⟨W, es, hrun, ht, by rw [he]; exact ⟨hm, h.keys, h.borns, h.old, hrow, h.blocks, h.pos, h.full⟩, fun i a ha => ⟨i, ha⟩, by rw [hG]; rfl⟩
  | some p =>
    obtain ⟨j, v⟩ := p
    rw [hf] at hm
    obtain ⟨e, _, he, hk, hv⟩ := findE_spec k es 0 j v hf
    rw [Nat.sub_zero] at he
    subst hk
    have hne : ∀ (i : Nat) (a : Ent), es[i]? = some a → i ≠ j → a.k ≠ e.k := fun i a ha hi hh => hi (h.keys i j a e ha he hh)
    refine ⟨W, es.eraseIdx j, hrun, ht, ⟨hm, fun a b x y hx hy hxy => ?_, fun a b x y hx hy hxy => ?_, fun a x hx => ?_, fun a x hx => ?_, fun a b x y hx hy hxy => ?_, fun a x hx => ?_, fun k' hk' => ?_⟩, fun a x hx => ?_, ?_⟩
    · obtain ⟨a', hx', _, ha⟩ := erase_at hx
      obtain ⟨b', hy', _, hb⟩ := erase_at hy
      have := h.keys a' b' x y hx' hy' hxy
      omega
    · obtain ⟨a', hx', _, ha⟩ := erase_at hx
      obtain ⟨b', hy', _, hb⟩ := erase_at hy
      have := h.borns a' b' x y hx' hy' hxy
      omega
    · obtain ⟨a', hx', _, ha⟩ := erase_at hx
      exact h.old a' x hx'
    · obtain ⟨a', hx', hj, ha⟩ := erase_at hx
      rw [dropG_other G (hne a' x hx' hj)]
      exact hrow a' x hx'
    · obtain ⟨a', hx', _, ha⟩ := erase_at hx
      obtain ⟨b', hy', _, hb⟩ := erase_at hy
      have := h.blocks a' b' x y hx' hy' hxy
      omega
    · obtain ⟨a', hx', hj, ha⟩ := erase_at hx
      rw [dropG_other G (hne a' x hx' hj)]
      exact h.pos a' x hx'
    · by_cases ek : k' = e.k
      · subst ek; rw [dropG_same] at hk'; exact absurd rfl hk'
      · rw [dropG_other G ek] at hk'
        obtain ⟨i, a, ha, hka⟩ := h.full k' hk'
        have hij : i ≠ j := fun hh => by
          subst hh
          rw [he] at ha
          obtain rfl := Option.some.inj ha
          exact ek hka.symm
        rcases Nat.lt_or_ge i j with hl | hl
        · exact ⟨i, a, by rw [List.getElem?_eraseIdx, if_pos hl]; exact ha, hka⟩
        · refine ⟨i - 1, a, ?_, hka⟩
          rw [List.getElem?_eraseIdx, if_neg (by omega), show i - 1 + 1 = i by omega]
          exact ha
    · obtain ⟨a', hx', _, _⟩ := erase_at hx
      exact ⟨a', hx'⟩
    · have h1 := sum_erase (fun e => sliceLen e.v) es j e he
      have h2 := own_len (h.rows j e he)
      unfold entSum
      rw [← h2]
      exact h1
end Go.Proofs.Ybulkcixi
