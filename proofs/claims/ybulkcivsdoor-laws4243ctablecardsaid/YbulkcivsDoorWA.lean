import Derived.Test.YbulkcivsDoorRows
import Derived.Test.YbulkcivsDoorFlC
import Derived.WalkKit
import Derived.WalkSpells
import Derived.WalkLawsBesides
import Derived.Deep.Draws
namespace Go.Proofs.YbulkcivsDoor
open Go.RowKit

/-! ### the library's body-less functions -/
theorem call_bits (x : Nat) (w : World) : (callFunc 26 #[.float .f64 x]).run Ybad.prog w = .ok (.value (.int .u64 x)) w := by kernel_rfl
theorem call_frombits (x : Int) (w : World) : (callFunc 25 #[.int .u64 x]).run Ybad.prog w = .ok (.value (.float .f64 x.toNat)) w := by kernel_rfl

theorem nan_aux (u v : Nat) (hu : u < 2) (hv : v < 4503599627370495) : cl (u * 9223372036854775808 + 9218868437227405312 + 1 + v) = none ∧ u * 9223372036854775808 + 9218868437227405312 + 1 + v < 2 ^ 64 := by
  have : u = 0 ∨ u = 1 := by omega
  constructor
  · refine cl_none ?_
    unfold nanB
    have : IR < (u * 9223372036854775808 + 9218868437227405312 + 1 + v) % SW := by
      unfold IR SW
      rcases this with rfl | rfl <;> omega
    simpa using this
  · rcases this with rfl | rfl <;> omega
theorem nan_cut (t x y : Nat) : cl (Question.cut (.nanBits .f64 x y) t) = none ∧ Question.cut (.nanBits .f64 x y) t < 2 ^ 64 :=
  nan_aux (t % 2) ((t / 2) % (2 ^ 52 - 1)) (Nat.mod_lt _ (by decide)) (Nat.mod_lt _ (by decide))
theorem nan_cut2 (t x y : Nat) (b : Bool) : cl (Question.cut (.nanMinMax .f64 b x y) t) = none ∧ Question.cut (.nanMinMax .f64 b x y) t < 2 ^ 64 :=
  nan_aux (t % 2) ((t / 2) % (2 ^ 52 - 1)) (Nat.mod_lt _ (by decide)) (Nat.mod_lt _ (by decide))

theorem run_sqrt (x : Nat) (w : World) : ∃ r n, (callFunc 24 #[.float .f64 x]).run Ybad.prog w = .ok (.value (.float .f64 r)) (w.drewN n) ∧ cl r = fsqrt (cl x) ∧ r < 2 ^ 64 := by
  have e := run_callFunc_extern (P := Ybad.prog) (e := Extern.MathSqrt.sqrt) Ybad.func24 (by kernel_rfl) (by kernel_rfl) (by kernel_rfl) (by kernel_rfl) #[.float .f64 x] w
  have e2 : (Extern.MathSqrt.sqrt #[.float .f64 x]).run Ybad.prog w = Sem.run Ybad.prog (match FloatKind.f64.format.sqrt x with
    | some r => pure (.float .f64 r)
    | none => do pure (.float .f64 (← choose (.nanBits .f64 x x)))) w := rfl
  rw [e, e2]
  cases h : FloatKind.f64.format.sqrt x with
  | some r =>
    refine ⟨r, 0, ?_, ?_, Ieee.double.sqrt_lt h⟩
    · simp; rfl
    · rw [← sqrt_cl]; exact (sqrt_some h).trans h.symm
  | none =>
    refine ⟨Question.cut (.nanBits .f64 x x) (w.tape w.drawn (.nanBits .f64 x x)), 1, ?_, ?_, (nan_cut _ _ _).2⟩
    · simp [Question.forced]; rfl
    · rw [← sqrt_cl]; exact (nan_cut _ _ _).1.trans h.symm

theorem run_add64' (x y c : Int) (hx : 0 ≤ x) (hy : 0 ≤ y) (hc0 : 0 ≤ c) (hc : c ≤ 1) (w : World) : (callFunc 31 #[.int .u64 x, .int .u64 y, .int .u64 c]).run Ybad.prog w =
    .ok (.value (.tuple #[.int .u64 ((x + y + c) % 18446744073709551616), .int .u64 ((x + y + c) / 18446744073709551616)])) w := by
  have e := run_callFunc_extern (P := Ybad.prog) (e := add64Entry) Ybad.func31 (by kernel_rfl) (by kernel_rfl) (by kernel_rfl) (by kernel_rfl) #[.int .u64 x, .int .u64 y, .int .u64 c] w
  rw [e, run_add64 x y c hx hy hc0 hc w]
  rfl

/-! ### '+', '-', '*', '/': the value's class is the operation's; a NaN draws -/
section
variable {P : Program}
theorem run_fl (op : BinOp) (g : Nat → Nat → Option Nat) (F : Option Nat → Option Nat → Option Nat) (hg : ∀ x y, g x y = F (cl x) (cl y)) (hs : ∀ x y r, g x y = some r → cl r = some r ∧ r < 2 ^ 64)
    (hop : ∀ t x y, binOp op t (.float .f64 x) (.float .f64 y) = (match g x y with | some r => pure (.float .f64 r) | none => do pure (.float .f64 (← choose (.nanBits .f64 x y)))))
    (t : TypeId) (x y : Nat) (w : World) : ∃ r n, (binOp op t (.float .f64 x) (.float .f64 y)).run P w = .ok (.float .f64 r) (w.drewN n) ∧ cl r = F (cl x) (cl y) ∧ r < 2 ^ 64 := by
  rw [hop]
  cases h : g x y with
  | some r =>
    obtain ⟨h1, h2⟩ := hs x y r h
    exact ⟨r, 0, by simp; rfl, by rw [← hg, h]; exact h1, h2⟩
  | none =>
    refine ⟨Question.cut (.nanBits .f64 x y) (w.tape w.drawn (.nanBits .f64 x y)), 1, ?_, ?_, (nan_cut _ _ _).2⟩
    · simp [Question.forced]; rfl
    · rw [← hg, h]; exact (nan_cut _ _ _).1

theorem run_fadd (t : TypeId) (x y : Nat) (w : World) : ∃ r n, (binOp .add t (.float .f64 x) (.float .f64 y)).run P w = .ok (.float .f64 r) (w.drewN n) ∧ cl r = fadd (cl x) (cl y) ∧ r < 2 ^ 64 :=
  run_fl .add Ieee.double.add fadd add_cl (fun _ _ _ h => ⟨add_some h, Ieee.double.add_lt h⟩) (fun t x y => by
    simp only [binOp, Op.floatArith, pure_bind]; rfl) t x y w
end
end Go.Proofs.YbulkcivsDoor
