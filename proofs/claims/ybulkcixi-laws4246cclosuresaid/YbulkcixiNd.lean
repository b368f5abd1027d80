/-
  needs, walked.
-/
import Derived.Test.YbulkcixiLs2
namespace Go.Proofs.Ybulkcixi
open Go.RowKit
set_option linter.unusedVariables false
set_option linter.unusedSimpArgs false

theorem results2 {W : World} {B : Nat} {v0 v1 : Value} (h : Row W B 37 2 (fun i v => v = [v0, v1].getD i undef)) (tmps : Array Value) (ht : tmps.getD 2 undef = .pointer (some ⟨B, 0, none⟩)) :
    (results Yba.f15 tmps).run Yba.prog W = .ok (.agg #[v0, v1]) W := by
  obtain ⟨xs, h1, h2, h3⟩ := h.row
  have e : xs = #[v0, v1] := by
    apply Array.ext
    · exact h2
    · intro i hi1 hi2
      have := h3 i xs[i] (by simp [hi1])
      rw [this]
      have hi7 : i < 2 := by omega
      rcases i with _ | _ | i <;> first | rfl | omega
  subst e
  exact results_cell_row rfl tmps W B 37 _ (0, 0) _ ht h1 Yba.underlying37 rfl (info_size Yba.inf37)

set_option maxRecDepth 100000 in
set_option maxHeartbeats 1000000 in
theorem needs_any (c : CallD) (w : World) : Calls Yba.prog 15 #[.agg (callCells c).toArray] w fun e w' => e = .returned (.agg #[.int .i64 (needKv c).n, .bool (needKv c).b]) ∧ Below w.heap.size w w' := by
  unfold callCells
  by_cases h3 : c.f = 3
  · have hn : (needKv c).n = c.en ∧ (needKv c).b = c.ev := by unfold needKv; rw [if_pos h3]; exact ⟨rfl, rfl⟩
    rw [hn.1, hn.2]
    clear hn
    go_enter Yba.func15, Yba.ntmps15
    go_wp2_with (rw [st_guard])
    refine law_store 37 37 (w.heap.size + 1) [.int .i64 c.en, .bool c.ev] (fun _ _ => True) (info_size Yba.inf37) (by rfl) (by rfl) ?_ (by rfl) ?_
    · refine ⟨#[.int .i64 0, .bool false], ?_, rfl, fun _ _ _ => trivial⟩
      exact heap_alloc2_new w _ _
    · intro W ht hp
      have hb : Hid (Below w.heap.size w W) := (((Below.refl _ _).alloc (Nat.le_refl _) _).alloc (by simp) _).trans (ht.below.mono (by omega))
      clear ht
      go_wp2
      (try simp only [Exit.inBlock, Exit.then])
      refine bodyPost_ret (results2 hp _ rfl) rfl ?_
      exact ⟨rfl, hb.out⟩
  · have hn : (needKv c).n = c.vn ∧ (needKv c).b = c.vv := by unfold needKv; rw [if_neg h3]; exact ⟨rfl, rfl⟩
    rw [hn.1, hn.2]
    clear hn
    have h3b : (c.f == 3) = false := by simp [h3]
    go_enter Yba.func15, Yba.ntmps15
    go_wp2_with (rw [st_guard])
    refine law_store 37 37 (w.heap.size + 1) [.int .i64 c.vn, .bool c.vv] (fun _ _ => True) (info_size Yba.inf37) (by rfl) (by rfl) ?_ (by rfl) ?_
    · refine ⟨#[.int .i64 0, .bool false], ?_, rfl, fun _ _ _ => trivial⟩
      exact heap_alloc2_new w _ _
    · intro W ht hp
      have hb : Hid (Below w.heap.size w W) := (((Below.refl _ _).alloc (Nat.le_refl _) _).alloc (by simp) _).trans (ht.below.mono (by omega))
      clear ht
      go_wp2
      (try simp only [Exit.inBlock, Exit.then])
      refine bodyPost_ret (results2 hp _ rfl) rfl ?_
      exact ⟨rfl, hb.out⟩
end Go.Proofs.Ybulkcixi
