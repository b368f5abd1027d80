/-
  Two calls compared; the operations of the region that compares them.
-/
import Derived.Test.YbulkcixiTk
namespace Go.Proofs.Ybulkcixi
open Go.RowKit
set_option linter.unusedVariables false
set_option linter.unusedSimpArgs false

theorem eq40 (d : Nat) (c : CallD) (w : World) : (Op.equalIn (d + 3) 40 (.agg (callCells c).toArray) (.agg (callCells c).toArray)).run Yba.prog w = .ok true w := by
  have hf := Option.some.inj (Yba.fields40.symm.trans Yba.underlying40)
  injection hf with hf
  have u9 := Yba.underlying9
  have u35 := Yba.underlying35
  have u38 := Yba.underlying38
  have u2 := Yba.underlying2
  have u3 := Yba.underlying3
  have u37 := Yba.underlying37
  obtain ⟨i, hi, h0, h1, h2⟩ := info_parts Yba.inf37
  have p3 : (part 37 (callCells c).toArray 3).run Yba.prog w = .ok (.agg #[.int .i64 c.vn, .bool c.vv]) w := by
    simp [part, callCells, go_sem, u37, sizeOf, typeInfo, hi, h1]
  have p5 : (part 37 (callCells c).toArray 5).run Yba.prog w = .ok (.agg #[.int .i64 c.en, .bool c.ev]) w := by
    simp [part, callCells, go_sem, u37, sizeOf, typeInfo, hi, h1]
  rw [run_equalIn_agg w (d + 2) 40 _ _ Yba.fields40 Yba.held40, hf]
  unfold callCells at p3 p5 ⊢
  simp [Op.eqFields, go_sem, u9, u35, u38, u2, u3, p3, p5, eq37]

section
variable {C : World → Prop} {S : Value → Prop} {a : Act} {w : World} {d : Option Tmp} {ty : TypeId} {pos : String} {af : Array Edge}
theorem LUpon_load40o {x : Operand} {b o : Nat} {c : CallD} (hC : C w) (hx : a.eval x = .pointer (some ⟨b, o, none⟩)) (hr : ∀ j, j < 12 → w.cell? ⟨b, o + j, none⟩ = some ((callCells c).getD j undef)) (hS : S (.agg (callCells c).toArray)) :
    LUpon Yba.prog C S ((execOp a.eval { dst := d, op := .load 40 x, type := ty, pos := pos, after := af, guard := none }).run Yba.prog w) := by
  have hu := Yba.underlying40
  have g0 : w.cell? ⟨b, o, none⟩ = some (.string procS) := hr 0 (by omega)
  have g1 : w.cell? ⟨b, o + 1, none⟩ = some (.int .u8 c.f) := hr 1 (by omega)
  have g2 : w.cell? ⟨b, o + 2, none⟩ = some (.string c.key) := hr 2 (by omega)
  have g3 : w.cell? ⟨b, o + 3, none⟩ = some (.int .i64 c.vn) := hr 3 (by omega)
  have g4 : w.cell? ⟨b, o + 4, none⟩ = some (.bool c.vv) := hr 4 (by omega)
  have g5 : w.cell? ⟨b, o + 5, none⟩ = some (.int .i64 c.en) := hr 5 (by omega)
  have g6 : w.cell? ⟨b, o + 6, none⟩ = some (.bool c.ev) := hr 6 (by omega)
  have g7 : w.cell? ⟨b, o + 7, none⟩ = some (.int .u8 c.oc) := hr 7 (by omega)
  have g8 : w.cell? ⟨b, o + 8, none⟩ = some (.int .i64 0) := hr 8 (by omega)
  have g9 : w.cell? ⟨b, o + 9, none⟩ = some (.int .i64 0) := hr 9 (by omega)
  have g10 : w.cell? ⟨b, o + 10, none⟩ = some (.int .i64 0) := hr 10 (by omega)
  have g11 : w.cell? ⟨b, o + 11, none⟩ = some (.int .i64 0) := hr 11 (by omega)
  have hs := run_size Yba.inf40 w
  obtain ⟨ρ, hρ⟩ : ∃ ρ, a.eval = ρ := ⟨_, rfl⟩
  rw [hρ] at hx ⊢
  simp [execOp, hx, hs, g0, g1, g2, g3, g4, g5, g6, g7, g8, g9, g10, g11, go_sem, LUpon]
  exact ⟨hS, hC⟩
theorem LUpon_neq40 {x y : Operand} {c : CallD} (hC : C w) (hx : a.eval x = .agg (callCells c).toArray) (hy : a.eval y = .agg (callCells c).toArray) (hS : S (.bool false)) :
    LUpon Yba.prog C S ((execOp a.eval { dst := d, op := .binOp .neq 40 x y 40, type := ty, pos := pos, after := af, guard := none }).run Yba.prog w) := by
  have heq : (Op.equalIn 10000 40 (.agg (callCells c).toArray) (.agg (callCells c).toArray)).run Yba.prog w = .ok true w := eq40 9997 c w
  have hm : Yba.prog.eqGuardType Yba.prog.depth 40 = false := by kernel_rfl
  have h1 := run_eqGuard_agg (P := Yba.prog) w .neq 40 x y (callCells c).toArray (callCells c).toArray hm
  have h2 := run_neq_struct (P := Yba.prog) w 40 (callCells c).toArray (callCells c).toArray
  rw [heq] at h2
  simp only [execOp, hx, hy, Sem.run_bind, h1, h2, Result.andThen_ok, Sem.run_pure, Sem.run_map]
  exact ⟨hS, hC⟩
end
end Go.Proofs.Ybulkcixi
