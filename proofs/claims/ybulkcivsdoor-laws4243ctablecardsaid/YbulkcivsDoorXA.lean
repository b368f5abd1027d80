import Derived.Test.YbulkcivsDoorWH
namespace Go.Proofs.YbulkcivsDoor
open Go.RowKit
set_option linter.unusedVariables false

def sinL : List Nat := [4460209587652500685, 13716528389658582877, 4523617212962785441, 13774824197404483331, 4575957461383575504, 13818544856648471880]
def cosL : List Nat := [13666448263388469915, 4477121864728985349, 13732177093698800582, 4537941361668146421, 13787419979223748497, 4586165620538955083]
/-- math's three tables as their text lays them. -/
def Tabs (w : World) : Prop := Tab4 w ∧ (∀ i, i < 6 → w.cell? ⟨3, i, none⟩ = some (.float .f64 (sinL.getD i 0))) ∧ (∀ i, i < 6 → w.cell? ⟨2, i, none⟩ = some (.float .f64 (cosL.getD i 0)))
theorem Tabs.drewN {w : World} (h : Tabs w) (n : Nat) : Tabs (w.drewN n) := h

/-- The two polynomials. -/
def hornS (zz : Nat) : Nat := addT (mulT (addT (mulT (addT (mulT (addT (mulT (addT (mulT 4460209587652500685 zz) 13716528389658582877) zz) 4523617212962785441) zz) 13774824197404483331) zz) 4575957461383575504) zz) 13818544856648471880
def hornC (zz : Nat) : Nat := addT (mulT (addT (mulT (addT (mulT (addT (mulT (addT (mulT 13666448263388469915 zz) 4477121864728985349) zz) 13732177093698800582) zz) 4537941361668146421) zz) 13787419979223748497) zz) 4586165620538955083
def sinP (z : Nat) : Nat := addT z (mulT (mulT z (mulT z z)) (hornS (mulT z z)))
def cosP (z : Nat) : Nat := addT (subT 4607182418800017408 (mulT 4602678819172646912 (mulT z z))) (mulT (mulT (mulT z z) (mulT z z)) (hornC (mulT z z)))

/-- A product that is known. -/
theorem law_mulR {P : Program} {w : World} {ops : Array Oper} {rest : List Oper} {a : Act} {Q : Exit → Act → World → Prop} {d : Option Tmp} {x y : Operand} {ty : TypeId} {pos : String} {af : Array Edge} {X Y R : Nat}
    (hx : a.eval x = .float .f64 X) (hy : a.eval y = .float .f64 Y) (hr : Ieee.double.mul X Y = some R) (h : wpList P ops Q rest (a.put d (.float .f64 R)) w) : FOp P ops Q rest a w d .mul x y ty pos af := by
  refine ⟨wpList_plain rfl fun K hK => ?_⟩
  have hrun := run_float_arith (P := P) w .mul 22 .f64 X Y R hr
  unfold Oper.wp
  simp [execOp, hx, hy, hrun, eqGuard_mul, Result.andThen]
  exact hK _ _ h

/-- What is left of a small x behind y quarter turns. -/
def smallZ (x y : Nat) : Nat := subT (subT (subT x (mulT y 4605249456957292544)) (mulT y 4495793288086814720)) (mulT y 4388835458085048688)

/-- The signs and polynomials by the octant. -/
def sinC (J : Int) (Z : Nat) : Nat := if J = 0 then sinP Z else if J = 2 then cosP Z else if J = 4 then negB (sinP Z) else negB (cosP Z)
def cosC (J : Int) (Z : Nat) : Nat := if J = 0 then cosP Z else if J = 2 then negB (sinP Z) else if J = 4 then negB (cosP Z) else sinP Z
end Go.Proofs.YbulkcivsDoor
