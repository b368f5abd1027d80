import Derived.Test.YbulkcivsDoorWA
namespace Go.Proofs.YbulkcivsDoor
open Go.RowKit

section
variable {P : Program}
theorem run_fsub (t : TypeId) (x y : Nat) (w : World) : ∃ r n, (binOp .sub t (.float .f64 x) (.float .f64 y)).run P w = .ok (.float .f64 r) (w.drewN n) ∧ cl r = fsub (cl x) (cl y) ∧ r < 2 ^ 64 :=
  run_fl .sub Ieee.double.sub fsub sub_cl (fun _ _ _ h => ⟨sub_some h, Ieee.double.sub_lt h⟩) (fun t x y => by
    simp only [binOp, Op.floatArith, pure_bind]; rfl) t x y w
theorem run_fmul (t : TypeId) (x y : Nat) (w : World) : ∃ r n, (binOp .mul t (.float .f64 x) (.float .f64 y)).run P w = .ok (.float .f64 r) (w.drewN n) ∧ cl r = fmul (cl x) (cl y) ∧ r < 2 ^ 64 :=
  run_fl .mul Ieee.double.mul fmul mul_cl (fun _ _ _ h => ⟨mul_some h, Ieee.double.mul_lt h⟩) (fun t x y => by
    simp only [binOp, Op.floatArith, pure_bind]; rfl) t x y w
theorem run_fquo (t : TypeId) (x y : Nat) (w : World) : ∃ r n, (binOp .quo t (.float .f64 x) (.float .f64 y)).run P w = .ok (.float .f64 r) (w.drewN n) ∧ cl r = fdiv (cl x) (cl y) ∧ r < 2 ^ 64 :=
  run_fl .quo Ieee.double.div fdiv div_cl (fun _ _ _ h => ⟨div_some h, Ieee.double.div_lt h⟩) (fun t x y => by
    simp only [binOp, Op.floatArith, pure_bind]; rfl) t x y w

/-- What the finite operations give, as plain functions. -/
def addT (x y : Nat) : Nat := (Ieee.double.add x y).getD 0
def subT (x y : Nat) : Nat := (Ieee.double.sub x y).getD 0
def mulT (x y : Nat) : Nat := (Ieee.double.mul x y).getD 0

/-- A float operation in a plain region: SOME word of the class that the operation gives; a NaN has drawn. -/
theorem wpList_fadd {w : World} {ops : Array Oper} {rest : List Oper} {a : Act} {Q : Exit → Act → World → Prop} {d : Option Tmp} {x y : Operand} {t1 t2 ty : TypeId} {pos : String} {af : Array Edge} {X Y : Nat}
    (hx : a.eval x = .float .f64 X) (hy : a.eval y = .float .f64 Y)
    (h : ∀ r n, Hid (cl r = fadd (cl X) (cl Y)) → r < 2 ^ 64 → wpList P ops Q rest (a.put d (.float .f64 r)) (w.drewN n)) :
    wpList P ops Q ({ dst := d, op := .binOp .add t1 x y t2, type := ty, pos := pos, after := af, guard := none } :: rest) a w := by
  refine wpList_plain rfl fun K hK => ?_
  obtain ⟨r, n, hrun, hc, hl⟩ := run_fadd (P := P) t1 X Y w
  unfold Oper.wp
  simp [execOp, hx, hy, hrun, eqGuard_add, Result.andThen]
  exact hK _ _ (h r n hc hl)

/-- A float operation in a plain region: SOME word of the class that the operation gives; a NaN has drawn. -/
theorem wpList_fsub {w : World} {ops : Array Oper} {rest : List Oper} {a : Act} {Q : Exit → Act → World → Prop} {d : Option Tmp} {x y : Operand} {t1 t2 ty : TypeId} {pos : String} {af : Array Edge} {X Y : Nat}
    (hx : a.eval x = .float .f64 X) (hy : a.eval y = .float .f64 Y)
    (h : ∀ r n, Hid (cl r = fsub (cl X) (cl Y)) → r < 2 ^ 64 → wpList P ops Q rest (a.put d (.float .f64 r)) (w.drewN n)) :
    wpList P ops Q ({ dst := d, op := .binOp .sub t1 x y t2, type := ty, pos := pos, after := af, guard := none } :: rest) a w := by
  refine wpList_plain rfl fun K hK => ?_
  obtain ⟨r, n, hrun, hc, hl⟩ := run_fsub (P := P) t1 X Y w
  unfold Oper.wp
  simp [execOp, hx, hy, hrun, eqGuard_sub, Result.andThen]
  exact hK _ _ (h r n hc hl)

/-- A float operation in a plain region: SOME word of the class that the operation gives; a NaN has drawn. -/
theorem wpList_fmul {w : World} {ops : Array Oper} {rest : List Oper} {a : Act} {Q : Exit → Act → World → Prop} {d : Option Tmp} {x y : Operand} {t1 t2 ty : TypeId} {pos : String} {af : Array Edge} {X Y : Nat}
    (hx : a.eval x = .float .f64 X) (hy : a.eval y = .float .f64 Y)
    (h : ∀ r n, Hid (cl r = fmul (cl X) (cl Y)) → r < 2 ^ 64 → wpList P ops Q rest (a.put d (.float .f64 r)) (w.drewN n)) :
    wpList P ops Q ({ dst := d, op := .binOp .mul t1 x y t2, type := ty, pos := pos, after := af, guard := none } :: rest) a w := by
  refine wpList_plain rfl fun K hK => ?_
  obtain ⟨r, n, hrun, hc, hl⟩ := run_fmul (P := P) t1 X Y w
  unfold Oper.wp
  simp [execOp, hx, hy, hrun, eqGuard_mul, Result.andThen]
  exact hK _ _ (h r n hc hl)

/-- A float operation in a plain region: SOME word of the class that the operation gives; a NaN has drawn. -/
theorem wpList_fquo {w : World} {ops : Array Oper} {rest : List Oper} {a : Act} {Q : Exit → Act → World → Prop} {d : Option Tmp} {x y : Operand} {t1 t2 ty : TypeId} {pos : String} {af : Array Edge} {X Y : Nat}
    (hx : a.eval x = .float .f64 X) (hy : a.eval y = .float .f64 Y)
    (h : ∀ r n, Hid (cl r = fdiv (cl X) (cl Y)) → r < 2 ^ 64 → wpList P ops Q rest (a.put d (.float .f64 r)) (w.drewN n)) :
    wpList P ops Q ({ dst := d, op := .binOp .quo t1 x y t2, type := ty, pos := pos, after := af, guard := none } :: rest) a w := by
  refine wpList_plain rfl fun K hK => ?_
  obtain ⟨r, n, hrun, hc, hl⟩ := run_fquo (P := P) t1 X Y w
  unfold Oper.wp
  simp [execOp, hx, hy, hrun, eqGuard_quo, Result.andThen]
  exact hK _ _ (h r n hc hl)

/-- The same of two bounded numbers: ONE word, nothing drawn. -/
theorem wpList_addT {w : World} {ops : Array Oper} {rest : List Oper} {a : Act} {Q : Exit → Act → World → Prop} {d : Option Tmp} {x y : Operand} {t1 t2 ty : TypeId} {pos : String} {af : Array Edge} {X Y p q : Nat}
    (hx : a.eval x = .float .f64 X) (hy : a.eval y = .float .f64 Y) (fx : Fin X p) (fy : Fin Y q) (hpq : max p q ≤ 1020)
    (h : ∀ r, Hid (r = addT X Y) → Fin r (max p q + 2) → r < 2 ^ 64 → wpList P ops Q rest (a.put d (.float .f64 r)) w) :
    wpList P ops Q ({ dst := d, op := .binOp .add t1 x y t2, type := ty, pos := pos, after := af, guard := none } :: rest) a w := by
  refine wpList_plain rfl fun K hK => ?_
  obtain ⟨r, hr, hf⟩ := add_fin fx fy hpq
  have hrun := run_float_arith (P := P) w .add t1 .f64 X Y r hr
  unfold Oper.wp
  simp [execOp, hx, hy, hrun, eqGuard_add, Result.andThen]
  exact hK _ _ (h r (show r = addT X Y by unfold addT; rw [hr]; rfl) hf (Ieee.double.add_lt hr))

/-- The same of two bounded numbers: ONE word, nothing drawn. -/
theorem wpList_subT {w : World} {ops : Array Oper} {rest : List Oper} {a : Act} {Q : Exit → Act → World → Prop} {d : Option Tmp} {x y : Operand} {t1 t2 ty : TypeId} {pos : String} {af : Array Edge} {X Y p q : Nat}
    (hx : a.eval x = .float .f64 X) (hy : a.eval y = .float .f64 Y) (fx : Fin X p) (fy : Fin Y q) (hpq : max p q ≤ 1020)
    (h : ∀ r, Hid (r = subT X Y) → Fin r (max p q + 2) → r < 2 ^ 64 → wpList P ops Q rest (a.put d (.float .f64 r)) w) :
    wpList P ops Q ({ dst := d, op := .binOp .sub t1 x y t2, type := ty, pos := pos, after := af, guard := none } :: rest) a w := by
  refine wpList_plain rfl fun K hK => ?_
  obtain ⟨r, hr, hf⟩ := sub_fin fx fy hpq
  have hrun := run_float_arith (P := P) w .sub t1 .f64 X Y r hr
  unfold Oper.wp
  simp [execOp, hx, hy, hrun, eqGuard_sub, Result.andThen]
  exact hK _ _ (h r (show r = subT X Y by unfold subT; rw [hr]; rfl) hf (Ieee.double.sub_lt hr))

/-- The same of two bounded numbers: ONE word, nothing drawn. -/
theorem wpList_mulT {w : World} {ops : Array Oper} {rest : List Oper} {a : Act} {Q : Exit → Act → World → Prop} {d : Option Tmp} {x y : Operand} {t1 t2 ty : TypeId} {pos : String} {af : Array Edge} {X Y p q : Nat}
    (hx : a.eval x = .float .f64 X) (hy : a.eval y = .float .f64 Y) (fx : Fin X p) (fy : Fin Y q) (hpq : p + q ≤ 1021)
    (h : ∀ r, Hid (r = mulT X Y) → Fin r (p + q + 1) → r < 2 ^ 64 → wpList P ops Q rest (a.put d (.float .f64 r)) w) :
    wpList P ops Q ({ dst := d, op := .binOp .mul t1 x y t2, type := ty, pos := pos, after := af, guard := none } :: rest) a w := by
  refine wpList_plain rfl fun K hK => ?_
  obtain ⟨r, hr, hf⟩ := mul_fin fx fy hpq
  have hrun := run_float_arith (P := P) w .mul t1 .f64 X Y r hr
  unfold Oper.wp
  simp [execOp, hx, hy, hrun, eqGuard_mul, Result.andThen]
  exact hK _ _ (h r (show r = mulT X Y by unfold mulT; rw [hr]; rfl) hf (Ieee.double.mul_lt hr))

/-- A NAME FOR 'a float operation stands next': 'rw [fop_guard]' succeeds there alone, and cheaply. -/
structure FOp (P : Program) (ops : Array Oper) (Q : Exit → Act → World → Prop) (rest : List Oper) (a : Act) (w : World) (d : Option Tmp) (op : BinOp) (x y : Operand) (ty : TypeId) (pos : String) (af : Array Edge) : Prop where
  out : wpList P ops Q ({ dst := d, op := .binOp op 22 x y 22, type := ty, pos := pos, after := af, guard := none } :: rest) a w
theorem fop_guard (P : Program) (ops : Array Oper) (Q : Exit → Act → World → Prop) (rest : List Oper) (a : Act) (w : World) (d : Option Tmp) (op : BinOp) (x y : Operand) (ty : TypeId) (pos : String) (af : Array Edge) :
    wpList P ops Q ({ dst := d, op := .binOp op 22 x y 22, type := ty, pos := pos, after := af, guard := none } :: rest) a w = FOp P ops Q rest a w d op x y ty pos af := propext ⟨fun h => ⟨h⟩, fun h => h.out⟩

variable {w : World} {ops : Array Oper} {rest : List Oper} {a : Act} {Q : Exit → Act → World → Prop} {d : Option Tmp} {x y : Operand} {ty : TypeId} {pos : String} {af : Array Edge} {X Y p q : Nat}
theorem law_fadd (hx : a.eval x = .float .f64 X) (hy : a.eval y = .float .f64 Y) (h : ∀ r n, Hid (cl r = fadd (cl X) (cl Y)) → r < 2 ^ 64 → wpList P ops Q rest (a.put d (.float .f64 r)) (w.drewN n)) : FOp P ops Q rest a w d .add x y ty pos af := ⟨wpList_fadd hx hy h⟩
theorem law_fsub (hx : a.eval x = .float .f64 X) (hy : a.eval y = .float .f64 Y) (h : ∀ r n, Hid (cl r = fsub (cl X) (cl Y)) → r < 2 ^ 64 → wpList P ops Q rest (a.put d (.float .f64 r)) (w.drewN n)) : FOp P ops Q rest a w d .sub x y ty pos af := ⟨wpList_fsub hx hy h⟩
theorem law_fmul (hx : a.eval x = .float .f64 X) (hy : a.eval y = .float .f64 Y) (h : ∀ r n, Hid (cl r = fmul (cl X) (cl Y)) → r < 2 ^ 64 → wpList P ops Q rest (a.put d (.float .f64 r)) (w.drewN n)) : FOp P ops Q rest a w d .mul x y ty pos af := ⟨wpList_fmul hx hy h⟩
theorem law_fquo (hx : a.eval x = .float .f64 X) (hy : a.eval y = .float .f64 Y) (h : ∀ r n, Hid (cl r = fdiv (cl X) (cl Y)) → r < 2 ^ 64 → wpList P ops Q rest (a.put d (.float .f64 r)) (w.drewN n)) : FOp P ops Q rest a w d .quo x y ty pos af := ⟨wpList_fquo hx hy h⟩
theorem law_addT (hx : a.eval x = .float .f64 X) (hy : a.eval y = .float .f64 Y) (fx : Fin X p) (fy : Fin Y q) (hpq : max p q ≤ 1020) (h : ∀ r, Hid (r = addT X Y) → Fin r (max p q + 2) → r < 2 ^ 64 → wpList P ops Q rest (a.put d (.float .f64 r)) w) : FOp P ops Q rest a w d .add x y ty pos af := ⟨wpList_addT hx hy fx fy hpq h⟩
theorem law_subT (hx : a.eval x = .float .f64 X) (hy : a.eval y = .float .f64 Y) (fx : Fin X p) (fy : Fin Y q) (hpq : max p q ≤ 1020) (h : ∀ r, Hid (r = subT X Y) → Fin r (max p q + 2) → r < 2 ^ 64 → wpList P ops Q rest (a.put d (.float .f64 r)) w) : FOp P ops Q rest a w d .sub x y ty pos af := ⟨wpList_subT hx hy fx fy hpq h⟩
theorem law_mulT (hx : a.eval x = .float .f64 X) (hy : a.eval y = .float .f64 Y) (fx : Fin X p) (fy : Fin Y q) (hpq : p + q ≤ 1021) (h : ∀ r, Hid (r = mulT X Y) → Fin r (p + q + 1) → r < 2 ^ 64 → wpList P ops Q rest (a.put d (.float .f64 r)) w) : FOp P ops Q rest a w d .mul x y ty pos af := ⟨wpList_mulT hx hy fx fy hpq h⟩
end
end Go.Proofs.YbulkcivsDoor
