/-
  The operations of tookEffect's region that draws its order.
-/
import Derived.Test.YbulkcixiSt
import Derived.Test.YbulkcixiL3
namespace Go.Proofs.Ybulkcixi
open Go.RowKit
set_option linter.unusedVariables false
set_option linter.unusedSimpArgs false

theorem lift3 {P : Program} {C : Value → World → Prop} {D : World → Prop} {S : Value → Prop} {R : Nat → Value → World → Prop} {k : Nat} {w : World} {r : Result Next} (h : LUpon P D S r)
    (hk : ∀ v w', S v → D w' → R k v w' ∧ C v w' ∧ Keep3 R w w') : LUpon3 P C R k w r := by
  cases r with
  | ok n w' =>
    cases n <;> simp only [LUpon] at h <;> simp only [LUpon3]
    case value v => exact hk v w' h.1 h.2
    case skip => exact hk undef w' h.1 h.2
    case enter f args => exact h.mono fun e w'' ⟨v, he, hv, hC⟩ => ⟨v, he, hk v w'' hv hC⟩
  | halt x w' => simp only [LUpon] at h
theorem lift3_same {P : Program} {C : Value → World → Prop} {R : Nat → Value → World → Prop} {k : Nat} {w : World} {X : Value} {r : Result Next} (h : LUpon P (fun w' => w' = w) (fun v => v = X) r)
    (hR : R k X w) (hC : C X w) : LUpon3 P C R k w r :=
  lift3 h fun v w' hv hw => by subst hv hw; exact ⟨hR, hC, Keep3.refl _ _⟩

section
variable {C : World → Prop} {S : Value → Prop} {a : Act} {w : World} {d : Option Tmp} {ty : TypeId} {pos : String} {af : Array Edge}
theorem LUpon_load40 {x : Operand} {b : Nat} {c : CallD} (hC : C w) (hx : a.eval x = .pointer (some ⟨b, 0, none⟩)) (hr : Row w b 40 12 (fun i v => v = (callCells c).getD i undef)) (hS : S (.agg (callCells c).toArray)) :
    LUpon Yba.prog C S ((execOp a.eval { dst := d, op := .load 40 x, type := ty, pos := pos, after := af, guard := none }).run Yba.prog w) := by
  have hu := Yba.underlying40
  have g0 : w.cell? ⟨b, 0, none⟩ = some (.string procS) := cell_row1 hr (i := 0) (by omega)
  have g1 : w.cell? ⟨b, 1, none⟩ = some (.int .u8 c.f) := cell_row1 hr (i := 1) (by omega)
  have g2 : w.cell? ⟨b, 2, none⟩ = some (.string c.key) := cell_row1 hr (i := 2) (by omega)
  have g3 : w.cell? ⟨b, 3, none⟩ = some (.int .i64 c.vn) := cell_row1 hr (i := 3) (by omega)
  have g4 : w.cell? ⟨b, 4, none⟩ = some (.bool c.vv) := cell_row1 hr (i := 4) (by omega)
  have g5 : w.cell? ⟨b, 5, none⟩ = some (.int .i64 c.en) := cell_row1 hr (i := 5) (by omega)
  have g6 : w.cell? ⟨b, 6, none⟩ = some (.bool c.ev) := cell_row1 hr (i := 6) (by omega)
  have g7 : w.cell? ⟨b, 7, none⟩ = some (.int .u8 c.oc) := cell_row1 hr (i := 7) (by omega)
  have g8 : w.cell? ⟨b, 8, none⟩ = some (.int .i64 0) := cell_row1 hr (i := 8) (by omega)
  have g9 : w.cell? ⟨b, 9, none⟩ = some (.int .i64 0) := cell_row1 hr (i := 9) (by omega)
  have g10 : w.cell? ⟨b, 10, none⟩ = some (.int .i64 0) := cell_row1 hr (i := 10) (by omega)
  have g11 : w.cell? ⟨b, 11, none⟩ = some (.int .i64 0) := cell_row1 hr (i := 11) (by omega)
  have hs := run_size Yba.inf40 w
  obtain ⟨ρ, hρ⟩ : ∃ ρ, a.eval = ρ := ⟨_, rfl⟩
  rw [hρ] at hx ⊢
  simp [execOp, hx, hs, g0, g1, g2, g3, g4, g5, g6, g7, g8, g9, g10, g11, go_sem, LUpon]
  exact ⟨hS, hC⟩
theorem LUpon_call15 {x : Operand} {X : Value} {t : TypeId} (hx : a.eval x = X) (h : Calls Yba.prog 15 #[X] w fun e w' => ∃ v, e = .returned v ∧ S v ∧ C w') :
    LUpon Yba.prog C S ((execOp a.eval { dst := d, op := .call { callee := .value (.func 15), args := #[x], argTypes := #[t] }, type := ty, pos := pos, after := af, guard := none }).run Yba.prog w) := by
  have hr : (execOp a.eval { dst := d, op := .call { callee := .value (.func 15), args := #[x], argTypes := #[t] }, type := ty, pos := pos, after := af, guard := none }).run Yba.prog w = .ok (.enter 15 #[X]) w := by
    have hfe : a.eval (.func 15) = .func (.func 15) #[] #[] := rfl
    obtain ⟨ρ, hρ⟩ : ∃ ρ, a.eval = ρ := ⟨_, rfl⟩
    rw [hρ] at hx hfe ⊢
    simp [execOp, hx, hfe, go_sem]
  rw [hr]
  exact h
theorem LUpon_build47 {x y : Operand} {X : ByteArray} {N : Int} {Y : Bool} (hC : C w) (hx : a.eval x = .string X) (hy : a.eval y = .agg #[.int .i64 N, .bool Y]) (hS : S (.agg #[.string X, .int .i64 N, .bool Y])) :
    LUpon Yba.prog C S ((execOp a.eval { dst := d, op := .build 47 #[(0, x), (1, y)], type := ty, pos := pos, after := af, guard := none }).run Yba.prog w) := by
  have hu := Yba.underlying47
  obtain ⟨i, hi, h0, h1, h2⟩ := info_parts Yba.inf47
  obtain ⟨ρ, hρ⟩ : ∃ ρ, a.eval = ρ := ⟨_, rfl⟩
  rw [hρ] at hx hy ⊢
  simp [execOp, hx, hy, hi, h0, go_sem, LUpon]
  exact ⟨hS, hC⟩
theorem LUpon_alloc47 (hC : C (w.alloc (.cells #[.string ⟨#[]⟩, .int .i64 0, .bool false] 47))) (hS : S (.pointer (some ⟨w.heap.size, 0, none⟩))) :
    LUpon Yba.prog C S ((execOp a.eval { dst := d, op := .alloc 47, type := ty, pos := pos, after := af, guard := none }).run Yba.prog w) := by
  obtain ⟨i, hi, h0, h1, h2⟩ := info_parts Yba.inf47
  simp [execOp, hi, h0, go_sem, LUpon]
  exact ⟨hS, hC⟩
end
end Go.Proofs.Ybulkcixi
