import Derived.Test.YbulkcivsDoorDA
namespace Go.Proofs.YbulkcivsDoor
open Go.RowKit
set_option linter.unusedVariables false
set_option linter.unusedSimpArgs false

def notDst (ops : Array Oper) (d : Tmp) : Bool := ops.all fun o => o.dst != some d

/-- What an operation may lean on when it comes up. -/
structure Pre (ops : Array Oper) (R : Nat → Value → Prop) (a0 : Act) (o : Oper) (a : Act) : Prop where
  on : ∀ e ∈ o.after, Region.binds .any e = true → ∀ (o' : Oper) (d : Tmp), ops[e.on]? = some o' → o'.dst = some d → R e.on (a.tmps.getD d undef)
  rest : ∀ d : Tmp, notDst ops d = true → a.tmps.getD d undef = a0.tmps.getD d undef

/-- What is owed of each operation, in the text's order. -/
def Obs (P : Program) (C : World → Prop) (ops : Array Oper) (R : Nat → Value → Prop) (a0 : Act) : Nat → List Oper → Prop
  | _, [] => True
  | k, o :: l => (∀ a w, Pre ops R a0 o a → C w → LUpon P C (R k) ((execOp a.eval o).run P w)) ∧ Obs P C ops R a0 (k + 1) l

theorem obs_spec {P : Program} {C : World → Prop} {ops : Array Oper} {R : Nat → Value → Prop} {a0 : Act} : ∀ (l : List Oper) (k : Nat), Obs P C ops R a0 k l → ∀ (j : Nat) (o : Oper), l[j]? = some o → ∀ a w, Pre ops R a0 o a → C w → LUpon P C (R (k + j)) ((execOp a.eval o).run P w)
  | [], k, _, j, o, h => by simp at h
  | o' :: l, k, h, 0, o, hj => by
    simp only [List.getElem?_cons_zero, Option.some.injEq] at hj
    subst hj
    exact h.1
  | o' :: l, k, h, j + 1, o, hj => by
    simp only [List.getElem?_cons_succ] at hj
    have := obs_spec l (k + 1) h.2 j o hj
    rw [show k + (j + 1) = k + 1 + j by omega]
    exact this

/-- All has come up. -/
structure Ends (ops : Array Oper) (R : Nat → Value → Prop) (a0 : Act) (a : Act) : Prop where
  size : a.tmps.size = a0.tmps.size
  defers : a.defers = a0.defers
  done : ∀ (j : Nat) (o : Oper) (d : Tmp), ops[j]? = some o → o.dst = some d → R j (a.tmps.getD d undef)
  rest : ∀ d : Tmp, notDst ops d = true → a.tmps.getD d undef = a0.tmps.getD d undef

theorem notDst_spec {ops : Array Oper} {d : Tmp} (h : notDst ops d = true) : ∀ (j : Nat) (o : Oper), ops[j]? = some o → o.dst ≠ some d := by
  intro j o hj
  have hm : o ∈ ops := Array.mem_of_getElem? hj
  have := Array.all_eq_true'.1 h o hm
  simpa using this

theorem wp_region_obs {P : Program} {C : World → Prop} {ops : Array Oper} {R : Nat → Value → Prop} {a0 : Act} {id : Nat} {Q : Exit → Act → World → Prop} {w : World} (hm : P.follows .mixedOrders = true) (hB : lqB ops a0.tmps.size = true) (hC : C w.drew)
    (ob : Obs P C ops R a0 0 ops.toList) (fin : ∀ (a : Act) (w : World), Ends ops R a0 a → C w → Q .normal a w) : (Code.region id ops true).wp P Q a0 w := by
  obtain ⟨hg, hdst, hin, hlow⟩ := lqB_spec hB
  refine wp_region_loose (C := C) (R := R) hm hg hdst hin hlow hC (fun j o hj listed a w hf haft hCw => ?_) (fun a w hf hCw => ?_)
  · have := obs_spec ops.toList 0 ob j o (by simpa using hj) a w ⟨fun e he hb o' d ho' hd => hf.done _ _ _ ho' (haft e he hb) hd, fun d hd => hf.rest d (notDst_spec hd)⟩ hCw
    rwa [Nat.zero_add] at this
  · have h1 := hf (Array.replicate ops.size true)
    refine fin a w ⟨h1.size, h1.defers, fun j o d hj hd => h1.done j o d hj ?_ hd, fun d hd => h1.rest d (notDst_spec hd)⟩ hCw
    have hlt : j < ops.size := by
      rcases Nat.lt_or_ge j ops.size with h | h
      · exact h
      · simp [Array.getElem?_eq_none h] at hj
    simp [Array.getD, hlt]

/-- min(h, 1) on classes. -/
def fmin1 (h : Option Nat) : Option Nat :=
  match ford h (cl 4607182418800017408) with
  | none => none
  | some .lt => h
  | some .gt => some 4607182418800017408
  | some .eq => h.map fun x => if (Ieee.double.read x).neg then x else 4607182418800017408
def hF (S1 S2 C1 C2 : Option Nat) : Option Nat := fadd (fmul S1 S1) (fmul (fmul (fmul C1 C2) S2) S2)
def kmF (S1 S2 C1 C2 : Option Nat) : Option Nat := fmul (cl 4668230602909024256) (asinF (fsqrt (fmin1 (hF S1 S2 C1 C2))))

theorem run_min1 (h : Nat) (hh : h < 2 ^ 64) (w : World) (ty : TypeId) : ∃ r n, (Builtin.min_ #[22, 22] ty #[.float .f64 h, .float .f64 4607182418800017408]).run Ybad.prog w = .ok (.float .f64 r) (w.drewN n) ∧ cl r = fmin1 (cl h) ∧ r < 2 ^ 64 := by
  have e : (Builtin.min_ #[22, 22] ty #[.float .f64 h, .float .f64 4607182418800017408]) = (Builtin.min2 (.float .f64 h) (.float .f64 4607182418800017408)) := by
    simp [Builtin.min_]
  rw [e]
  have e2 : Builtin.min2 (.float .f64 h) (.float .f64 4607182418800017408) = (match FloatKind.f64.format.order h 4607182418800017408 with
    | none => do pure (.float .f64 (← choose (.nanMinMax .f64 false h 4607182418800017408)))
    | some .lt => pure (.float .f64 h)
    | some .gt => pure (.float .f64 4607182418800017408)
    | some .eq => pure (.float .f64 (if (FloatKind.f64.decode h).neg then h else 4607182418800017408))) := rfl
  rw [e2]
  have oc : FloatKind.f64.format.order h 4607182418800017408 = ford (cl h) (cl 4607182418800017408) := order_cl _ _
  unfold fmin1
  rw [← oc]
  cases ho : FloatKind.f64.format.order h 4607182418800017408 with
  | none =>
    refine ⟨Question.cut (.nanMinMax .f64 false h 4607182418800017408) (w.tape w.drawn (.nanMinMax .f64 false h 4607182418800017408)), 1, ?_, (nan_cut2 _ _ _ _).1, (nan_cut2 _ _ _ _).2⟩
    simp [Question.forced]; rfl
  | some o =>
    have hn : nanB h = false := by
      cases hb : nanB h
      · rfl
      · have : Ieee.double.order h 4607182418800017408 = none := order_none hb
        rw [show FloatKind.f64.format.order h 4607182418800017408 = Ieee.double.order h 4607182418800017408 from rfl, this] at ho
        cases ho
    cases o with
    | lt => exact ⟨h, 0, by simp; rfl, rfl, hh⟩
    | gt => exact ⟨4607182418800017408, 0, by simp; rfl, (show cl 4607182418800017408 = some 4607182418800017408 by decide), by decide⟩
    | eq =>
      refine ⟨if (FloatKind.f64.decode h).neg then h else 4607182418800017408, 0, by simp; rfl, ?_, ?_⟩
      · rw [cl_some hn]
        show cl (if (Ieee.double.read h).neg = true then h else _) = some (if (Ieee.double.read h).neg = true then h else _)
        split
        · exact cl_some hn
        · decide
      · split
        · exact hh
        · decide

/-- 'min(h, 1)' stands next. -/
structure FMin (P : Program) (ops : Array Oper) (Q : Exit → Act → World → Prop) (rest : List Oper) (a : Act) (w : World) (d : Option Tmp) (x : Operand) (ty : TypeId) (pos : String) (af : Array Edge) : Prop where
  out : wpList P ops Q ({ dst := d, op := .call { callee := .builtin .min, args := #[x, .const (.float .f64 4607182418800017408)], argTypes := #[22, 22] }, type := ty, pos := pos, after := af, guard := none } :: rest) a w
theorem fmin_guard (P : Program) (ops : Array Oper) (Q : Exit → Act → World → Prop) (rest : List Oper) (a : Act) (w : World) (d : Option Tmp) (x : Operand) (ty : TypeId) (pos : String) (af : Array Edge) :
    wpList P ops Q ({ dst := d, op := .call { callee := .builtin .min, args := #[x, .const (.float .f64 4607182418800017408)], argTypes := #[22, 22] }, type := ty, pos := pos, after := af, guard := none } :: rest) a w = FMin P ops Q rest a w d x ty pos af := propext ⟨fun h => ⟨h⟩, fun h => h.out⟩
theorem law_fmin {w : World} {ops : Array Oper} {rest : List Oper} {a : Act} {Q : Exit → Act → World → Prop} {d : Option Tmp} {x : Operand} {ty : TypeId} {pos : String} {af : Array Edge} {X : Nat} (hx : a.eval x = .float .f64 X) (lx : X < 2 ^ 64)
    (h : ∀ r n, Hid (cl r = fmin1 (cl X)) → r < 2 ^ 64 → wpList Ybad.prog ops Q rest (a.put d (.float .f64 r)) (w.drewN n)) : FMin Ybad.prog ops Q rest a w d x ty pos af := by
  refine ⟨wpList_plain rfl fun K hK => ?_⟩
  obtain ⟨r, n, hrun, hc, hl⟩ := run_min1 X lx w ty
  have hcst : a.eval (.const (.float .f64 4607182418800017408)) = .float .f64 4607182418800017408 := rfl
  obtain ⟨ρ, hρ⟩ : ∃ ρ, a.eval = ρ := ⟨_, rfl⟩
  unfold Oper.wp
  rw [hρ] at hx hcst ⊢
  simp [execOp, resolve, invoke, builtin, hx, hcst, hrun, Result.andThen]
  exact hK _ _ (h r n hc hl)
end Go.Proofs.YbulkcivsDoor
