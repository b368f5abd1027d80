import Derived.Test.YbulkcivsDoorDF
namespace Go.Proofs.YbulkcivsDoor
open Go.RowKit
set_option linter.unusedVariables false
set_option linter.unusedSimpArgs false

theorem Ybad.inf31 : (Ybad.prog.info? 31).map (fun i => (i.zero, i.size, i.bytes)) = some (some (.agg #[.slice none 0 0, .int .i64 0, .float .f64 0, .int .i64 0, .float .f64 0, .float .f64 0, .slice none 0 0]), 7, 88) := by kernel_rfl
theorem Ybad.inf28 : (Ybad.prog.info? 28).map (fun i => (i.zero, i.size, i.bytes)) = some (some (.agg #[.slice none 0 0, .int .i64 0, .float .f64 0]), 3, 40) := by kernel_rfl

/-- The sum of the first n uploads. -/
def totN : Nat → Nat
  | 0 => 0
  | n + 1 => totN n + upN (n % 20)
theorem upN_le (r : Nat) : upN r ≤ 4000 := by unfold upN; split <;> (try split) <;> (try split) <;> omega
theorem totN_le (n : Nat) : totN n ≤ 4000 * n := by
  induction n with
  | zero => simp [totN]
  | succ n ih => have := upN_le (n % 20); simp only [totN]; omega

/-! ### more operations -/
section
variable {C : World → Prop} {S : Value → Prop} {a : Act} {w : World} {d : Option Tmp} {ty : TypeId} {pos : String} {af : Array Edge}
theorem LUpon_load44 {x : Operand} {ad : Addr} {p : Option Addr} {l c : Nat} (hC : C w) (hx : a.eval x = .pointer (some ad)) (hc : w.cell? ad = some (.slice p l c)) (hS : S (.slice p l c)) :
    LUpon Ybad.prog C S ((execOp a.eval { dst := d, op := .load 44 x, type := ty, pos := pos, after := af, guard := none }).run Ybad.prog w) := by
  have hu := Ybad.underlying44
  obtain ⟨ρ, hρ⟩ : ∃ ρ, a.eval = ρ := ⟨_, rfl⟩
  rw [hρ] at hx ⊢
  simp [execOp, hx, hc, go_sem, LUpon]
  exact ⟨hS, hC⟩
theorem LUpon_load29 {x : Operand} {ad : Addr} {p : Option Addr} {l c : Nat} (hC : C w) (hx : a.eval x = .pointer (some ad)) (hc : w.cell? ad = some (.slice p l c)) (hS : S (.slice p l c)) :
    LUpon Ybad.prog C S ((execOp a.eval { dst := d, op := .load 29 x, type := ty, pos := pos, after := af, guard := none }).run Ybad.prog w) := by
  have hu := Ybad.underlying29
  obtain ⟨ρ, hρ⟩ : ∃ ρ, a.eval = ρ := ⟨_, rfl⟩
  rw [hρ] at hx ⊢
  simp [execOp, hx, hc, go_sem, LUpon]
  exact ⟨hS, hC⟩
theorem LUpon_load3 {x : Operand} {ad : Addr} {X : Int} (hC : C w) (hx : a.eval x = .pointer (some ad)) (hc : w.cell? ad = some (.int .i64 X)) (hS : S (.int .i64 X)) :
    LUpon Ybad.prog C S ((execOp a.eval { dst := d, op := .load 3 x, type := ty, pos := pos, after := af, guard := none }).run Ybad.prog w) := by
  have hu := Ybad.underlying3
  obtain ⟨ρ, hρ⟩ : ∃ ρ, a.eval = ρ := ⟨_, rfl⟩
  rw [hρ] at hx ⊢
  simp [execOp, hx, hc, go_sem, LUpon]
  exact ⟨hS, hC⟩
theorem LUpon_field43 {x : Operand} {b o : Nat} (hC : C w) (hx : a.eval x = .pointer (some ⟨b, o, none⟩)) (hS : S (.pointer (some ⟨b, o, none⟩))) :
    LUpon Ybad.prog C S ((execOp a.eval { dst := d, op := .fieldAddr 43 x 0, type := ty, pos := pos, after := af, guard := none }).run Ybad.prog w) := by
  have hu := Ybad.underlying43
  obtain ⟨ρ, hρ⟩ : ∃ ρ, a.eval = ρ := ⟨_, rfl⟩
  rw [hρ] at hx ⊢
  simp [execOp, hx, go_sem, LUpon]
  exact ⟨hS, hC⟩
theorem LUpon_field31 {x : Operand} {b : Nat} (hC : C w) (hx : a.eval x = .pointer (some ⟨b, 0, none⟩)) (hS : S (.pointer (some ⟨b, 6, none⟩))) :
    LUpon Ybad.prog C S ((execOp a.eval { dst := d, op := .fieldAddr 31 x 4, type := ty, pos := pos, after := af, guard := none }).run Ybad.prog w) := by
  have hu := Ybad.underlying31
  obtain ⟨ρ, hρ⟩ : ∃ ρ, a.eval = ρ := ⟨_, rfl⟩
  rw [hρ] at hx ⊢
  simp [execOp, hx, go_sem, LUpon]
  exact ⟨hS, hC⟩
theorem LUpon_add3 {x y : Operand} {X Y Z : Int} (hC : C w) (hx : a.eval x = .int .i64 X) (hy : a.eval y = .int .i64 Y) (hz : IntKind.i64.wrap (X + Y) = Z) (hS : S (.int .i64 Z)) :
    LUpon Ybad.prog C S ((execOp a.eval { dst := d, op := .binOp .add 3 x y 3, type := ty, pos := pos, after := af, guard := none }).run Ybad.prog w) := by
  have hu := Ybad.underlying3
  obtain ⟨ρ, hρ⟩ : ∃ ρ, a.eval = ρ := ⟨_, rfl⟩
  rw [hρ] at hx hy ⊢
  simp [execOp, hx, hy, go_sem, LUpon, hz]
  exact ⟨hS, hC⟩
theorem LUpon_mul3 {x y : Operand} {X Y Z : Int} (hC : C w) (hx : a.eval x = .int .i64 X) (hy : a.eval y = .int .i64 Y) (hz : IntKind.i64.wrap (X * Y) = Z) (hS : S (.int .i64 Z)) :
    LUpon Ybad.prog C S ((execOp a.eval { dst := d, op := .binOp .mul 3 x y 3, type := ty, pos := pos, after := af, guard := none }).run Ybad.prog w) := by
  have hu := Ybad.underlying3
  obtain ⟨ρ, hρ⟩ : ∃ ρ, a.eval = ρ := ⟨_, rfl⟩
  rw [hρ] at hx hy ⊢
  simp [execOp, hx, hy, go_sem, LUpon, hz]
  exact ⟨hS, hC⟩
theorem LUpon_store22 {x y : Operand} {b o : Nat} {X : Nat} (ht : w.there b o 1) (hx : a.eval x = .pointer (some ⟨b, o, none⟩)) (hy : a.eval y = .float .f64 X)
    (hC : C (w.setCell ⟨b, o, none⟩ (.float .f64 X))) (hS : S undef) :
    LUpon Ybad.prog C S ((execOp a.eval { dst := d, op := .store 22 x y, type := ty, pos := pos, after := af, guard := none }).run Ybad.prog w) := by
  have hu := Ybad.underlying22
  obtain ⟨h1, h2⟩ := ht 0 (by omega)
  rw [Nat.add_zero] at h1 h2
  obtain ⟨v, hv⟩ := Option.isSome_iff_exists.1 h1
  obtain ⟨ρ, hρ⟩ : ∃ ρ, a.eval = ρ := ⟨_, rfl⟩
  rw [hρ] at hx hy ⊢
  simp [execOp, hx, hy, hv, h2, go_sem, LUpon, run_store Ybad.prog w ⟨b, o, none⟩ (.float .f64 X) _ (by simp [Value.oneCell']), stored]
  exact ⟨hS, hC⟩
theorem LUpon_call1 {f : Nat} {x : Operand} {t : TypeId} {X : Value} (hf : f = 12 ∨ f = 10) (hx : a.eval x = X) (h : Calls Ybad.prog f #[X] w fun e w' => ∃ v, e = .returned v ∧ S v ∧ C w') :
    LUpon Ybad.prog C S ((execOp a.eval { dst := d, op := .call { callee := .value (.func f), args := #[x], argTypes := #[t] }, type := ty, pos := pos, after := af, guard := none }).run Ybad.prog w) := by
  have hr : (execOp a.eval { dst := d, op := .call { callee := .value (.func f), args := #[x], argTypes := #[t] }, type := ty, pos := pos, after := af, guard := none }).run Ybad.prog w = .ok (.enter f #[X]) w := by
    have hfe : a.eval (.func f) = .func (.func f) #[] #[] := rfl
    obtain ⟨ρ, hρ⟩ : ∃ ρ, a.eval = ρ := ⟨_, rfl⟩
    rw [hρ] at hx hfe ⊢
    rcases hf with rfl | rfl <;> simp [execOp, hx, hfe, go_sem]
  rw [hr]
  exact h
theorem LUpon_call2 {f : Nat} {x y : Operand} {t u : TypeId} {X Y : Value} (hf : f = 8 ∨ f = 9) (hx : a.eval x = X) (hy : a.eval y = Y) (h : Calls Ybad.prog f #[X, Y] w fun e w' => ∃ v, e = .returned v ∧ S v ∧ C w') :
    LUpon Ybad.prog C S ((execOp a.eval { dst := d, op := .call { callee := .value (.func f), args := #[x, y], argTypes := #[t, u] }, type := ty, pos := pos, after := af, guard := none }).run Ybad.prog w) := by
  have hr : (execOp a.eval { dst := d, op := .call { callee := .value (.func f), args := #[x, y], argTypes := #[t, u] }, type := ty, pos := pos, after := af, guard := none }).run Ybad.prog w = .ok (.enter f #[X, Y]) w := by
    have hfe : a.eval (.func f) = .func (.func f) #[] #[] := rfl
    obtain ⟨ρ, hρ⟩ : ∃ ρ, a.eval = ρ := ⟨_, rfl⟩
    rw [hρ] at hx hy hfe ⊢
    rcases hf with rfl | rfl <;> simp [execOp, hx, hy, hfe, go_sem]
  rw [hr]
  exact h
theorem LUpon_not {x : Operand} {b : Bool} (hC : C w) (hx : a.eval x = .bool b) (hS : S (.bool (!b))) :
    LUpon Ybad.prog C S ((execOp a.eval { dst := d, op := .unOp .not 4 x, type := ty, pos := pos, after := af, guard := none }).run Ybad.prog w) := by
  have hu := Ybad.underlying4
  obtain ⟨ρ, hρ⟩ : ∃ ρ, a.eval = ρ := ⟨_, rfl⟩
  rw [hρ] at hx ⊢
  simp [execOp, hx, go_sem, LUpon]
  exact ⟨hS, hC⟩
end
end Go.Proofs.YbulkcivsDoor
