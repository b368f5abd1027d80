/-
  tookEffect, its first loop.
-/
import Derived.Test.YbulkcixiLeast
namespace Go.Proofs.Ybulkcixi
open Go.RowKit
set_option linter.unusedVariables false
set_option linter.unusedSimpArgs false

theorem law_bool {ops : Array Oper} {Q : Exit → Act → World → Prop} {rest : List Oper} {a : Act} {w : World} {d : Option Tmp} {x y : Operand} {ty : TypeId} {pos : String} {af : Array Edge}
    (t' : TypeId) (B o n : Nat) (u : Bool) (F : Nat → Value → Prop) (hx : a.eval x = .pointer (some ⟨B, o, none⟩)) (hy : a.eval y = .bool u)
    (hrow : Row w B t' n F) (ho : o < n)
    (h : ∀ W, Turn B w W → Row W B t' n (fun i v => if i = o then v = .bool u else F i v) → wpList Yba.prog ops Q rest (a.put d undef) W) : StOp Yba.prog ops Q rest a w d 4 x y ty pos af := by
  refine ⟨wpList_plain rfl fun K hK => ?_⟩
  obtain ⟨v, hv, _⟩ := hrow.cell ho
  have hf := hrow.frozen o
  have hh := h _ (Turn.set B o w (.bool u)) (hrow.set o _)
  have hu := Yba.underlying4
  obtain ⟨ρ, hρ⟩ : ∃ ρ, a.eval = ρ := ⟨_, rfl⟩
  unfold Oper.wp
  rw [hρ] at hx hy ⊢
  simp [execOp, hx, hy, hv, hf, go_sem, Oper.upon]
  exact hK _ _ hh

/-- A NAME FOR 'an append stands next'. -/
structure ApOp (P : Program) (ops : Array Oper) (Q : Exit → Act → World → Prop) (rest : List Oper) (a : Act) (w : World) (d : Option Tmp) (x y : Operand) (ts : Array TypeId) (ty : TypeId) (pos : String) (af : Array Edge) : Prop where
  out : wpList P ops Q ({ dst := d, op := .call { callee := .builtin .append, args := #[x, y], argTypes := ts }, type := ty, pos := pos, after := af, guard := none } :: rest) a w
theorem ap_guard (P : Program) (ops : Array Oper) (Q : Exit → Act → World → Prop) (rest : List Oper) (a : Act) (w : World) (d : Option Tmp) (x y : Operand) (ts : Array TypeId) (ty : TypeId) (pos : String) (af : Array Edge) :
    wpList P ops Q ({ dst := d, op := .call { callee := .builtin .append, args := #[x, y], argTypes := ts }, type := ty, pos := pos, after := af, guard := none } :: rest) a w = ApOp P ops Q rest a w d x y ts ty pos af := propext ⟨fun h => ⟨h⟩, fun h => h.out⟩
theorem law_append {ops : Array Oper} {Q : Exit → Act → World → Prop} {rest : List Oper} {a : Act} {w W : World} {d : Option Tmp} {x y : Operand} {ts : Array TypeId} {ty : TypeId} {pos : String} {af : Array Edge} {v u v' : Value}
    (hx : a.eval x = v) (hy : a.eval y = u) (hr : (Builtin.append_ ts ty #[v, u]).run Yba.prog w = .ok v' W) (h : wpList Yba.prog ops Q rest (a.put d v') W) : ApOp Yba.prog ops Q rest a w d x y ts ty pos af := by
  refine ⟨wpList_plain rfl fun K hK => ?_⟩
  unfold Oper.wp execOp
  simp only [resolve, invoke, builtin, Sem.run_bind, Sem.run_pure, Result.andThen_ok, List.map_toArray, List.map_cons, List.map_nil, hx, hy, hr]
  exact hK _ _ h

theorem make_bools (n : Nat) (hn : n ≤ 1024) (w : World) : ∃ W, (Instr.makeSlice 32 (.int .i64 n) (.int .i64 n)).run Yba.prog w = .ok (.slice (some ⟨w.heap.size, 0, none⟩) n n) W ∧ Below w.heap.size w W ∧ W.heap.size = w.heap.size + 1 ∧ Row W w.heap.size 4 n (fun _ v => v = .bool false) := by
  obtain ⟨i, hi, hz0, hz1, hz2⟩ := info_parts Yba.inf4
  have h := run_make (P := Yba.prog) w 32 4 i _ Yba.underlying32 hi hz0 .i64 .i64 n n (by omega) (by omega) (by rw [hz2]; omega) (by omega)
  have e : (Value.bool false).cells = #[.bool false] := rfl
  refine ⟨w.alloc (.cells (madeCells #[.bool false] n) 4), by simpa [hz1, e] using h, (Below.refl _ _).alloc (Nat.le_refl _) _, by simp, ?_⟩
  have := Row.alloc w (madeCells #[.bool false] n) 4 (fun _ v => v = .bool false) (fun i v hv => by
    have hm : v ∈ (madeCells #[.bool false] n).toList := by
      have := Array.mem_of_getElem? hv
      simpa using this
    rw [toList_madeCells_one] at hm
    exact (List.mem_replicate.1 hm).2)
  rwa [size_madeCells] at this

/-- One call's cells. -/
theorem cells12 {w : World} {B n : Nat} {cs : Nat → CallD} (h : Calls40 w B n cs) {i : Nat} (hi : i < n) (j : Nat) (hj : j < 12) : w.cell? ⟨B, i * 12 + j, none⟩ = some ((callCells (cs i)).getD j undef) := by
  have := cell_row1 (F := fun i => (callCells (cs (i / 12))).getD (i % 12) undef) h (i := i * 12 + j) (by omega)
  rw [this]
  rw [show (i * 12 + j) / 12 = i by omega, show (i * 12 + j) % 12 = j by omega]
end Go.Proofs.Ybulkcixi
