/-
  The stack of tookEffect: one more number on it.
-/
import Derived.Test.YbulkcixiPh
namespace Go.Proofs.Ybulkcixi
open Go.RowKit
set_option linter.unusedVariables false
set_option linter.unusedSimpArgs false

/-- The stack's slice lies apart from the map's. -/
def Apart (es : List Ent) (tv : Value) : Prop := ∀ (j : Nat) (a : Ent), es[j]? = some a → tv.ownBlock = none ∨ a.v.ownBlock ≠ tv.ownBlock

theorem stack_push {w : World} {M base : Nat} {es : List Ent} {clock : Nat} {G : KV → List Nat} {tv : Value} {L : List Nat} (h : MapInv w M base es clock G) (ho : w.ownsRow base 3 1 tv L.length (ints L)) (ha : Apart es tv) (hMb : M < base) (hbs : base ≤ w.heap.size) (hL : L.length ≤ 4096) (m : Nat) (t ty : TypeId) :
    ∃ v' W, (Builtin.append_ #[48, 48] ty #[tv, .slice (some ⟨w.heap.size, 0, none⟩) 1 1]).run Yba.prog (w.alloc (.cells #[.int .i64 (m : Int)] t)) = .ok v' W ∧ MapInv W M base es clock G ∧ W.ownsRow base 3 1 v' (L ++ [m]).length (ints (L ++ [m])) ∧ Apart es v' ∧ KeepB base M w W ∧
      W.heap[M]? = w.heap[M]? ∧ (∀ g, g < w.heap.size → some g ≠ tv.ownBlock → W.heap[g]? = w.heap[g]?) ∧ (v'.ownBlock = tv.ownBlock ∨ v'.ownBlock = some (w.heap.size + 1)) := by
  obtain ⟨i0, hi, hz0, hz1, hz2⟩ := info_parts Yba.inf3
  obtain ⟨w1, hw1⟩ : ∃ w1, w.alloc (.cells #[.int .i64 (m : Int)] t) = w1 := ⟨_, rfl⟩
  rw [hw1]
  have hs1 : w1.heap.size = w.heap.size + 1 := by rw [← hw1]; simp
  have ho1 : ∀ b, b < w.heap.size → w1.heap[b]? = w.heap[b]? := fun b hb => by rw [← hw1]; exact Below.heap_alloc w _ b hb
  have hc1 : ∀ j u, [Value.int .i64 (m : Int)][j]? = some u → w1.cell? ((⟨w.heap.size, 0, none⟩ : Addr).add j) = some u := by rw [← hw1]; exact cell_one_new w _ t
  have hg1 : w1.os = w.os ∧ w1.tape = w.tape ∧ w1.output = w.output := by rw [← hw1]; exact ⟨rfl, rfl, rfl⟩
  have hone : ∀ u ∈ [Value.int .i64 (m : Int)], u.oneCell' = true := by simp [Value.oneCell']
  have hown1 : w1.ownsRow base 3 1 tv L.length (ints L) := own_same ho fun g hg => ho1 g (ho.lt g hg).2
  obtain ⟨v', W, hrun, hown, hgr, hnil, hloc⟩ := run_append_own_at (P := Yba.prog) w1 base 48 ty 3 i0 (.int .i64 0) 1 8 Yba.underlying48 hi hz0 hz1 hz2 rfl (by decide) tv L.length (ints L) hown1 ⟨w.heap.size, 0, none⟩ 1 1 [.int .i64 (m : Int)] rfl hc1 hone (by unfold maxLen; omega) (by omega) (by omega)
  have hsame : ∀ g, g < w.heap.size → some g ≠ tv.ownBlock → W.heap[g]? = w.heap[g]? := fun g hg hne => by
    rw [hgr.block g (by omega) hne, ho1 g hg]
  have hlow : ∀ g, g < base → some g ≠ tv.ownBlock := fun g hg hh => by have := (ho.lt g hh.symm).1; omega
  have hMs : W.heap[M]? = w.heap[M]? := hsame M (by omega) (hlow M hMb)
  refine ⟨v', W, hrun, ?_, ?_, ?_, ?_, hMs, hsame, by rw [← hs1]; exact hloc⟩
  · refine h.kept hMs fun i a hia g hg => hsame g (h.own_lt hia hg).2 fun hh => ?_
    rcases ha i a hia with h1 | h1
    · rw [h1] at hh; cases hh
    · exact h1 (hg.trans hh)
  · have e1 : ints (L ++ [m]) = ints L ++ [Value.int .i64 (m : Int)] := by simp [ints]
    have e2 : (L ++ [m]).length = L.length + 1 := by simp
    rw [e1, e2]
    exact hown
  · intro j a hja
    rcases hloc with hl | hl
    · rw [hl]; exact ha j a hja
    · right
      intro hh
      have := (h.own_lt hja (hh.trans hl)).2
      omega
  · refine ⟨by rw [hgr.os, hg1.1], by rw [hgr.tape, hg1.2.1], by rw [hgr.output, hg1.2.2], ?_, fun b hb _ => hsame b (by omega) (hlow b hb)⟩
    have := hgr.size
    omega
end Go.Proofs.Ybulkcixi
