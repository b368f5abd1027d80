import Derived.Test.YbulkcivsDoorXF
import Derived.Test.YbulkcivsDoorLq
import Derived.Deep.QuietTactic
namespace Go.Proofs.YbulkcivsDoor
open Go.RowKit
set_option linter.unusedVariables false
set_option linter.unusedSimpArgs false

theorem arr47 (t : Array Value) (h : t.size = 47) : t = #[t.getD 0 undef, t.getD 1 undef, t.getD 2 undef, t.getD 3 undef, t.getD 4 undef, t.getD 5 undef, t.getD 6 undef, t.getD 7 undef, t.getD 8 undef, t.getD 9 undef, t.getD 10 undef, t.getD 11 undef, t.getD 12 undef, t.getD 13 undef, t.getD 14 undef, t.getD 15 undef, t.getD 16 undef, t.getD 17 undef, t.getD 18 undef, t.getD 19 undef, t.getD 20 undef, t.getD 21 undef, t.getD 22 undef, t.getD 23 undef, t.getD 24 undef, t.getD 25 undef, t.getD 26 undef, t.getD 27 undef, t.getD 28 undef, t.getD 29 undef, t.getD 30 undef, t.getD 31 undef, t.getD 32 undef, t.getD 33 undef, t.getD 34 undef, t.getD 35 undef, t.getD 36 undef, t.getD 37 undef, t.getD 38 undef, t.getD 39 undef, t.getD 40 undef, t.getD 41 undef, t.getD 42 undef, t.getD 43 undef, t.getD 44 undef, t.getD 45 undef, t.getD 46 undef] := by
  have e : t = ((List.range 47).map fun i => t.getD i undef).toArray := by
    apply Array.ext
    · simp [h]
    · intro i h1 h2
      simp [Array.getD, h1]
  exact e

/-- The closed conditions of 'wp_region_loose', as one Bool. -/
def lqB (ops : Array Oper) (sz : Nat) : Bool :=
  (List.range ops.size).all fun j => match ops[j]? with
    | none => true
    | some o => o.guard.isNone && (match o.dst with | none => false | some d => decide (d < sz)) && o.after.all (fun e => !Region.binds .any e || decide (e.on < j)) &&
      (List.range ops.size).all fun i => match ops[i]? with | none => true | some o' => decide (i = j) || o'.dst != o.dst

theorem lqB_spec {ops : Array Oper} {sz : Nat} (h : lqB ops sz = true) :
    (∀ (j : Nat) (o : Oper), ops[j]? = some o → o.guard = none) ∧
    (∀ (i j : Nat) (oi oj : Oper) (d : Tmp), ops[i]? = some oi → ops[j]? = some oj → oi.dst = some d → oj.dst = some d → i = j) ∧
    (∀ (j : Nat) (o : Oper), ops[j]? = some o → ∃ d, o.dst = some d ∧ d < sz) ∧
    (∀ (j : Nat) (o : Oper), ops[j]? = some o → ∀ e ∈ o.after, Region.binds .any e = true → e.on < j) := by
  have hlt : ∀ (j : Nat) (o : Oper), ops[j]? = some o → j < ops.size := fun j o hj => by
    rcases Nat.lt_or_ge j ops.size with h | h
    · exact h
    · simp [Array.getElem?_eq_none h] at hj
  have key : ∀ (j : Nat) (o : Oper), ops[j]? = some o → (o.guard.isNone = true ∧ (match o.dst with | none => false | some d => decide (d < sz)) = true ∧ o.after.all (fun e => !Region.binds .any e || decide (e.on < j)) = true) ∧
      ∀ (i : Nat) (o' : Oper), ops[i]? = some o' → i = j ∨ (o'.dst != o.dst) = true := by
    intro j o hj
    unfold lqB at h
    have := List.all_eq_true.1 h j (List.mem_range.2 (hlt j o hj))
    simp only [hj, Bool.and_eq_true] at this
    obtain ⟨⟨⟨g1, g2⟩, g3⟩, g4⟩ := this
    refine ⟨⟨g1, g2, g3⟩, fun i o' hi => ?_⟩
    have := List.all_eq_true.1 g4 i (List.mem_range.2 (hlt i o' hi))
    simp only [hi, Bool.or_eq_true, decide_eq_true_eq] at this
    exact this
  refine ⟨fun j o hj => by simpa using (key j o hj).1.1, fun i j oi oj d hi hj h1 h2 => ?_, fun j o hj => ?_, fun j o hj e he hb => ?_⟩
  · rcases (key j oj hj).2 i oi hi with h | h
    · exact h
    · simp [h1, h2] at h
  · have := (key j o hj).1.2.1
    split at this
    · cases this
    · rename_i d hd
      exact ⟨d, hd, by simpa using this⟩
  · have := (key j o hj).1.2.2
    have h2 := (Array.all_eq_true'.1 this) e he
    simp [hb] at h2
    exact h2

/-- A float of a class. -/
def FV (X : Option Nat) (v : Value) : Prop := ∃ r, v = .float .f64 r ∧ cl r = X ∧ r < 2 ^ 64
def radC : Nat := 4580687790476533049
def twoC : Nat := 4611686018427387904

/-- What region 1 of distanceKm leaves. -/
def R1 (B La Lb : Nat) : Nat → Value → Prop
  | 0 => fun v => v = .pointer (some ⟨B, 0, none⟩)
  | 1 => fun v => v = .float .f64 La
  | 2 => FV (fmul (cl La) (cl radC))
  | 3 => fun v => v = .pointer (some ⟨B + 1, 0, none⟩)
  | 4 => fun v => v = .float .f64 Lb
  | 5 => FV (fmul (cl Lb) (cl radC))
  | 6 => FV (fmul (cl La) (cl radC))
  | _ => FV (fmul (cl Lb) (cl radC))

/-- One float operation, in a region that draws. -/
theorem LUpon_mul {P : Program} {C : World → Prop} {a : Act} {w : World} {d : Option Tmp} {x y : Operand} {ty : TypeId} {pos : String} {af : Array Edge} {X Y : Nat} {F : Option Nat} (hC : ∀ n, C (w.drewN n)) (hx : a.eval x = .float .f64 X) (hy : a.eval y = .float .f64 Y) (hF : fmul (cl X) (cl Y) = F) :
    LUpon P C (FV F) ((execOp a.eval { dst := d, op := .binOp .mul 22 x y 22, type := ty, pos := pos, after := af, guard := none }).run P w) := by
  obtain ⟨r, n, hrun, hc, hl⟩ := run_fmul (P := P) 22 X Y w
  simp [execOp, hx, hy, hrun, eqGuard_mul, LUpon]
  exact ⟨⟨r, rfl, hc.trans hF, hl⟩, hC n⟩
theorem LUpon_sub {P : Program} {C : World → Prop} {a : Act} {w : World} {d : Option Tmp} {x y : Operand} {ty : TypeId} {pos : String} {af : Array Edge} {X Y : Nat} {F : Option Nat} (hC : ∀ n, C (w.drewN n)) (hx : a.eval x = .float .f64 X) (hy : a.eval y = .float .f64 Y) (hF : fsub (cl X) (cl Y) = F) :
    LUpon P C (FV F) ((execOp a.eval { dst := d, op := .binOp .sub 22 x y 22, type := ty, pos := pos, after := af, guard := none }).run P w) := by
  obtain ⟨r, n, hrun, hc, hl⟩ := run_fsub (P := P) 22 X Y w
  simp [execOp, hx, hy, hrun, eqGuard_sub, LUpon]
  exact ⟨⟨r, rfl, hc.trans hF, hl⟩, hC n⟩
theorem LUpon_quo {P : Program} {C : World → Prop} {a : Act} {w : World} {d : Option Tmp} {x y : Operand} {ty : TypeId} {pos : String} {af : Array Edge} {X Y : Nat} {F : Option Nat} (hC : ∀ n, C (w.drewN n)) (hx : a.eval x = .float .f64 X) (hy : a.eval y = .float .f64 Y) (hF : fdiv (cl X) (cl Y) = F) :
    LUpon P C (FV F) ((execOp a.eval { dst := d, op := .binOp .quo 22 x y 22, type := ty, pos := pos, after := af, guard := none }).run P w) := by
  obtain ⟨r, n, hrun, hc, hl⟩ := run_fquo (P := P) 22 X Y w
  simp [execOp, hx, hy, hrun, eqGuard_quo, LUpon]
  exact ⟨⟨r, rfl, hc.trans hF, hl⟩, hC n⟩
theorem LUpon_move {P : Program} {C : World → Prop} {S : Value → Prop} {a : Act} {w : World} {d : Option Tmp} {x : Operand} {ty : TypeId} {pos : String} {af : Array Edge} (hC : C w) (hx : S (a.eval x)) :
    LUpon P C S ((execOp a.eval { dst := d, op := .move x, type := ty, pos := pos, after := af, guard := none }).run P w) := by
  simp [execOp, LUpon]
  exact ⟨hx, hC⟩
theorem LUpon_assign {P : Program} {C : World → Prop} {S : Value → Prop} {a : Act} {w : World} {d : Option Tmp} {x : Operand} {ty : TypeId} {pos : String} {af : Array Edge} (hC : C w) (hx : S (a.eval x)) :
    LUpon P C S ((execOp a.eval { dst := d, op := .assign x, type := ty, pos := pos, after := af, guard := none }).run P w) := by
  simp [execOp, LUpon]
  exact ⟨hx, hC⟩
theorem LUpon_load {C : World → Prop} {S : Value → Prop} {a : Act} {w : World} {d : Option Tmp} {x : Operand} {ty : TypeId} {pos : String} {af : Array Edge} {ad : Addr} {X : Nat} (hC : C w) (hx : a.eval x = .pointer (some ad)) (hc : w.cell? ad = some (.float .f64 X)) (hS : S (.float .f64 X)) :
    LUpon Ybad.prog C S ((execOp a.eval { dst := d, op := .load 22 x, type := ty, pos := pos, after := af, guard := none }).run Ybad.prog w) := by
  have hu := Ybad.underlying22
  obtain ⟨ρ, hρ⟩ : ∃ ρ, a.eval = ρ := ⟨_, rfl⟩
  rw [hρ] at hx ⊢
  simp [execOp, hx, hc, go_sem, LUpon]
  exact ⟨hS, hC⟩
theorem LUpon_field {C : World → Prop} {S : Value → Prop} {a : Act} {w : World} {d : Option Tmp} {x : Operand} {ty : TypeId} {pos : String} {af : Array Edge} {b o i : Nat} (hC : C w) (hx : a.eval x = .pointer (some ⟨b, o, none⟩)) (hi : i = 0 ∨ i = 1) (hS : S (.pointer (some ⟨b, o + i, none⟩))) :
    LUpon Ybad.prog C S ((execOp a.eval { dst := d, op := .fieldAddr 36 x i, type := ty, pos := pos, after := af, guard := none }).run Ybad.prog w) := by
  have hu := Ybad.underlying36
  obtain ⟨ρ, hρ⟩ : ∃ ρ, a.eval = ρ := ⟨_, rfl⟩
  rw [hρ] at hx ⊢
  rcases hi with rfl | rfl
  · simp [execOp, hx, go_sem, LUpon]
    exact ⟨hS, hC⟩
  · simp [execOp, hx, go_sem, LUpon]
    exact ⟨hS, hC⟩
theorem LUpon_call {C : World → Prop} {S : Value → Prop} {a : Act} {w : World} {d : Option Tmp} {x : Operand} {ty : TypeId} {pos : String} {af : Array Edge} {X : Nat} {F : Option Nat} (hC : ∀ n, C (w.drewN n)) (hx : a.eval x = .float .f64 X)
    (h : Calls Ybad.prog 13 #[.float .f64 X] w fun e w' => FlRes w F e w') (hS : ∀ v, FV F v → S v) :
    LUpon Ybad.prog C S ((execOp a.eval { dst := d, op := .call { callee := .value (.func 13), args := #[x], argTypes := #[22] }, type := ty, pos := pos, after := af, guard := none }).run Ybad.prog w) := by
  have hr : (execOp a.eval { dst := d, op := .call { callee := .value (.func 13), args := #[x], argTypes := #[22] }, type := ty, pos := pos, after := af, guard := none }).run Ybad.prog w = .ok (.enter 13 #[.float .f64 X]) w := by
    have hf : a.eval (.func 13) = .func (.func 13) #[] #[] := rfl
    obtain ⟨ρ, hρ⟩ : ∃ ρ, a.eval = ρ := ⟨_, rfl⟩
    rw [hρ] at hx hf ⊢
    simp [execOp, hx, hf, go_sem]
  rw [hr]
  exact h.mono fun e w' ⟨r, n, he, hc, hl, hw⟩ => ⟨_, he, hS _ ⟨r, rfl, hc, hl⟩, by rw [hw]; exact hC n⟩
end Go.Proofs.YbulkcivsDoor
