/-
  STORES, the world behind them named: which block has turned, and what it holds now.
-/
import Derived.Test.YbulkcivsDoorNA
namespace Go.Proofs.YbulkcivsDoor
open Go.RowKit
set_option linter.unusedVariables false
set_option linter.unusedSimpArgs false

/-- Block B alone has turned. -/
structure Turn (B : Nat) (w W : World) : Prop where
  os : W.os = w.os
  tape : W.tape = w.tape
  output : W.output = w.output
  size : W.heap.size = w.heap.size
  other : ∀ k, k ≠ B → W.heap[k]? = w.heap[k]?
theorem Turn.refl (B : Nat) (w : World) : Turn B w w := ⟨rfl, rfl, rfl, rfl, fun _ _ => rfl⟩
theorem Turn.trans {B : Nat} {a b c : World} (h : Turn B a b) (k : Turn B b c) : Turn B a c := ⟨k.os.trans h.os, k.tape.trans h.tape, k.output.trans h.output, k.size.trans h.size, fun i hi => (k.other i hi).trans (h.other i hi)⟩
theorem Turn.set (B j : Nat) (w : World) (v : Value) : Turn B w (w.setCell ⟨B, j, none⟩ v) :=
  ⟨rfl, rfl, rfl, by simp [World.setCell], fun k hk => Below.heap_setCell w ⟨B, j, none⟩ v k hk⟩
theorem Turn.sets (B : Nat) : ∀ (cs : List Value) (o : Nat) (w : World), Turn B w (w.setCells B o cs)
  | [], _, w => Turn.refl B w
  | v :: l, o, w => (Turn.set B o w v).trans (Turn.sets B l (o + 1) _)
theorem Turn.below {B : Nat} {w W : World} (h : Turn B w W) : Below B w W := ⟨h.os, h.tape, h.output, by rw [h.size]; exact Nat.le_refl _, fun k hk => h.other k (by omega)⟩
theorem Turn.row {B k n : Nat} {w W : World} {t : TypeId} {F : Nat → Value → Prop} (h : Turn B w W) (hr : Row w k t n F) (hk : k ≠ B) : Row W k t n F := hr.of_heap (h.other k hk)

theorem Row.sets {B n : Nat} {t : TypeId} : ∀ (cs : List Value) (o : Nat) (w : World) (F : Nat → Value → Prop), Row w B t n F → Row (w.setCells B o cs) B t n (fun i v => (o ≤ i → i < o + cs.length → v = cs.getD (i - o) undef) ∧ ((i < o ∨ o + cs.length ≤ i) → F i v))
  | [], o, w, F, h => h.mono fun i v _ hf => ⟨fun h1 h2 => by simp at h2; omega, fun _ => hf⟩
  | u :: l, o, w, F, h => by
    refine (Row.sets l (o + 1) _ _ (h.set o u)).mono fun i v _ hf => ⟨fun h1 h2 => ?_, fun h1 => ?_⟩
    · by_cases e : i = o
      · subst e
        have := hf.2 (.inl (by omega))
        rw [if_pos rfl] at this
        simp [this]
      · have := hf.1 (by omega) (by simp at h2; omega)
        rw [this, show i - o = (i - (o + 1)) + 1 by omega]
        rfl
    · have := hf.2 (by simp at h1; omega)
      rw [if_neg (by simp at h1; omega)] at this
      exact this

/-- A NAME FOR 'a store stands next'. -/
structure StOp (P : Program) (ops : Array Oper) (Q : Exit → Act → World → Prop) (rest : List Oper) (a : Act) (w : World) (d : Option Tmp) (t : TypeId) (x y : Operand) (ty : TypeId) (pos : String) (af : Array Edge) : Prop where
  out : wpList P ops Q ({ dst := d, op := .store t x y, type := ty, pos := pos, after := af, guard := none } :: rest) a w
theorem st_guard (P : Program) (ops : Array Oper) (Q : Exit → Act → World → Prop) (rest : List Oper) (a : Act) (w : World) (d : Option Tmp) (t : TypeId) (x y : Operand) (ty : TypeId) (pos : String) (af : Array Edge) :
    wpList P ops Q ({ dst := d, op := .store t x y, type := ty, pos := pos, after := af, guard := none } :: rest) a w = StOp P ops Q rest a w d t x y ty pos af := propext ⟨fun h => ⟨h⟩, fun h => h.out⟩

section
variable {ops : Array Oper} {Q : Exit → Act → World → Prop} {rest : List Oper} {a : Act} {w : World} {d : Option Tmp} {x y : Operand} {ty : TypeId} {pos : String} {af : Array Edge}
theorem law_store (t t' : TypeId) (B : Nat) (cs : List Value) (F : Nat → Value → Prop) (hi : (Ybad.prog.info? t).map (·.size) = some cs.length) (hx : a.eval x = .pointer (some ⟨B, 0, none⟩)) (hy : a.eval y = .agg cs.toArray)
    (hrow : Row w B t' cs.length F) (h1 : cs.all (·.oneCell') = true)
    (h : ∀ W, Turn B w W → Row W B t' cs.length (fun i v => v = cs.getD i undef) → wpList Ybad.prog ops Q rest (a.put d undef) W) : StOp Ybad.prog ops Q rest a w d t x y ty pos af := by
  refine ⟨wpList_store_mid rfl t x y rfl B 0 cs.toArray hx hy (hrow.there 0 _ (by simp)) (by simpa using hi) (all_oneCell_toArray (List.all_eq_true.1 h1)) ?_⟩
  have e : cs.toArray.toList = cs := by simp
  rw [e]
  refine h _ (Turn.sets B cs 0 w) ((Row.sets cs 0 w F hrow).mono fun i v hi hf => ?_)
  have := hf.1 (Nat.zero_le _) (by omega)
  simpa using this
theorem law_store1 (t t' : TypeId) (B o n : Nat) (p : Option Addr) (l c : Nat) (F : Nat → Value → Prop) (hu : t = 29) (hx : a.eval x = .pointer (some ⟨B, o, none⟩)) (hy : a.eval y = .slice p l c)
    (hrow : Row w B t' n F) (ho : o < n)
    (h : ∀ W, Turn B w W → Row W B t' n (fun i v => if i = o then v = .slice p l c else F i v) → wpList Ybad.prog ops Q rest (a.put d undef) W) : StOp Ybad.prog ops Q rest a w d t x y ty pos af := by
  subst hu
  refine ⟨wpList_plain rfl fun K hK => ?_⟩
  obtain ⟨v, hv, _⟩ := hrow.cell ho
  have hf := hrow.frozen o
  have hh := h _ (Turn.set B o w (.slice p l c)) (hrow.set o _)
  have hu := Ybad.underlying29
  obtain ⟨ρ, hρ⟩ : ∃ ρ, a.eval = ρ := ⟨_, rfl⟩
  unfold Oper.wp
  rw [hρ] at hx hy ⊢
  simp [execOp, hx, hy, hv, hf, go_sem, Oper.upon, run_store Ybad.prog w ⟨B, o, none⟩ (.slice p l c) _ (by simp [Value.oneCell'])]
  exact hK _ _ hh
end
/-- A peers value's cells. -/
def peersL (s : Value) (isps : Int) (pen : Nat) (n : Int) (mean rate : Nat) (km : Value) : List Value := [s, .int .i64 isps, .float .f64 pen, .int .i64 n, .float .f64 mean, .float .f64 rate, km]
theorem cells7 {W : World} {B : Nat} {t : TypeId} {v0 v1 v2 v3 v4 v5 v6 : Value} (h : Row W B t 7 (fun i v => v = [v0, v1, v2, v3, v4, v5, v6].getD i undef)) :
    W.cell? ⟨B, 0, none⟩ = some v0 ∧ W.cell? ⟨B, 1, none⟩ = some v1 ∧ W.cell? ⟨B, 2, none⟩ = some v2 ∧ W.cell? ⟨B, 3, none⟩ = some v3 ∧ W.cell? ⟨B, 4, none⟩ = some v4 ∧ W.cell? ⟨B, 5, none⟩ = some v5 ∧ W.cell? ⟨B, 6, none⟩ = some v6 :=
  ⟨cell_row1 h (i := 0) (by omega), cell_row1 h (i := 1) (by omega), cell_row1 h (i := 2) (by omega), cell_row1 h (i := 3) (by omega), cell_row1 h (i := 4) (by omega), cell_row1 h (i := 5) (by omega), cell_row1 h (i := 6) (by omega)⟩
theorem results7 {W : World} {B : Nat} {v0 v1 v2 v3 v4 v5 v6 : Value} (h : Row W B 31 7 (fun i v => v = [v0, v1, v2, v3, v4, v5, v6].getD i undef)) (tmps : Array Value) (ht : tmps.getD 6 undef = .pointer (some ⟨B, 0, none⟩)) :
    (results Ybad.f7 tmps).run Ybad.prog W = .ok (.agg #[v0, v1, v2, v3, v4, v5, v6]) W := by
  obtain ⟨xs, h1, h2, h3⟩ := h.row
  have e : xs = #[v0, v1, v2, v3, v4, v5, v6] := by
    apply Array.ext
    · exact h2
    · intro i hi1 hi2
      have := h3 i xs[i] (by simp [hi1])
      rw [this]
      have hi7 : i < 7 := by omega
      rcases i with _ | _ | _ | _ | _ | _ | _ | i <;> first | rfl | omega
  subst e
  exact results_cell_row rfl tmps W B 31 _ (0, 0) _ ht h1 Ybad.underlying31 rfl (info_size Ybad.inf31)
end Go.Proofs.YbulkcivsDoor
