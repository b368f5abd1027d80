/-
  Rows of memory by a predicate; the frame behind a region that drew; the operations that such a region meets.
-/
import Derived.Test.YbulkcivsDoorDE
import Derived.Deep.MidRow
namespace Go.Proofs.YbulkcivsDoor
open Go.RowKit
set_option linter.unusedVariables false
set_option linter.unusedSimpArgs false

/-- Block B holds n cells; each is as F says. -/
structure Row (w : World) (B : Nat) (t : TypeId) (n : Nat) (F : Nat → Value → Prop) : Prop where
  row : ∃ xs : Array Value, w.heap[B]? = some (.cells xs t (0, 0)) ∧ xs.size = n ∧ ∀ i v, xs[i]? = some v → F i v

theorem Row.lt {w : World} {B n : Nat} {t : TypeId} {F : Nat → Value → Prop} (h : Row w B t n F) : B < w.heap.size := by
  obtain ⟨xs, h1, _, _⟩ := h.row
  rcases Nat.lt_or_ge B w.heap.size with h | h
  · exact h
  · simp [Array.getElem?_eq_none h] at h1
theorem Row.cell {w : World} {B n : Nat} {t : TypeId} {F : Nat → Value → Prop} (h : Row w B t n F) {i : Nat} (hi : i < n) : ∃ v, w.cell? ⟨B, i, none⟩ = some v ∧ F i v := by
  obtain ⟨xs, h1, h2, h3⟩ := h.row
  refine ⟨xs[i]'(by omega), ?_, h3 i _ (by simp [show i < xs.size by omega])⟩
  simp [World.cell?, h1, show i < xs.size by omega]
theorem Row.frozen {w : World} {B n : Nat} {t : TypeId} {F : Nat → Value → Prop} (h : Row w B t n F) (i : Nat) : w.frozen? ⟨B, i, none⟩ = false := by
  obtain ⟨xs, h1, h2, h3⟩ := h.row
  simp [World.frozen?, h1]
theorem Row.there {w : World} {B n : Nat} {t : TypeId} {F : Nat → Value → Prop} (h : Row w B t n F) (o m : Nat) (ho : o + m ≤ n) : w.there B o m := fun j hj => by
  obtain ⟨v, hv, _⟩ := h.cell (i := o + j) (by omega)
  exact ⟨by rw [hv]; rfl, h.frozen _⟩
theorem Row.mono {w : World} {B n : Nat} {t : TypeId} {F G : Nat → Value → Prop} (h : Row w B t n F) (hg : ∀ i v, i < n → F i v → G i v) : Row w B t n G := by
  obtain ⟨xs, h1, h2, h3⟩ := h.row
  refine ⟨xs, h1, h2, fun i v hv => hg i v ?_ (h3 i v hv)⟩
  rcases Nat.lt_or_ge i xs.size with h | h
  · omega
  · simp [Array.getElem?_eq_none h] at hv
theorem Row.of_heap {w W : World} {B n : Nat} {t : TypeId} {F : Nat → Value → Prop} (h : Row w B t n F) (e : W.heap[B]? = w.heap[B]?) : Row W B t n F := by
  obtain ⟨xs, h1, h2, h3⟩ := h.row
  exact ⟨xs, e.trans h1, h2, h3⟩
theorem Row.later {w W : World} {B n k : Nat} {t : TypeId} {F : Nat → Value → Prop} (h : Row w B t n F) (hb : Below k w W) (hk : B < k) : Row W B t n F := h.of_heap (hb.block B hk)
theorem Row.drewN {w : World} {B n : Nat} {t : TypeId} {F : Nat → Value → Prop} (h : Row w B t n F) (m : Nat) : Row (w.drewN m) B t n F := h.of_heap rfl
theorem Row.setOther {w : World} {B n : Nat} {t : TypeId} {F : Nat → Value → Prop} (h : Row w B t n F) (p : Addr) (v : Value) (hp : B ≠ p.block) : Row (w.setCell p v) B t n F :=
  h.of_heap (Below.heap_setCell w p v B hp)
theorem Row.set {w : World} {B n : Nat} {t : TypeId} {F : Nat → Value → Prop} (h : Row w B t n F) (j : Nat) (v : Value) : Row (w.setCell ⟨B, j, none⟩ v) B t n (fun i x => if i = j then x = v else F i x) := by
  obtain ⟨xs, h1, h2, h3⟩ := h.row
  refine ⟨xs.setIfInBounds j v, ?_, by simpa using h2, fun i x hx => ?_⟩
  · have hlt := h.lt
    have h' : w.heap[B] = .cells xs t (0, 0) := by simpa [Array.getElem?_eq_getElem hlt] using h1
    show (w.heap.modify B _)[B]? = _
    simp [Array.getElem?_modify, h1]
  · rw [Array.getElem?_setIfInBounds] at hx
    by_cases e : j = i
    · subst e
      rw [if_pos rfl] at hx
      rw [if_pos rfl]
      split at hx
      · exact (Option.some.inj hx).symm
      · cases hx
    · rw [if_neg e] at hx
      rw [if_neg (fun h => e h.symm)]
      exact h3 i x hx
theorem Row.alloc (w : World) (xs : Array Value) (t : TypeId) (F : Nat → Value → Prop) (h : ∀ i v, xs[i]? = some v → F i v) : Row (w.alloc (.cells xs t)) w.heap.size t xs.size F :=
  ⟨xs, heap_alloc_new w _, rfl, h⟩

theorem cell_row1 {w : World} {B n : Nat} {t : TypeId} {F : Nat → Value} (h : Row w B t n (fun i v => v = F i)) {i : Nat} (hi : i < n) : w.cell? ⟨B, i, none⟩ = some (F i) := by
  obtain ⟨v, hv, rfl⟩ := h.cell hi
  exact hv

/-! ### the frame behind a region -/
def putAll : Act → List Oper → List Value → Act
  | a, [], _ => a
  | a, o :: l, L => putAll (a.put o.dst (L.headD undef)) l L.tail

theorem putAll_spec : ∀ (l : List Oper) (L : List Value) (a : Act), (∀ (i j : Nat) (oi oj : Oper) (d : Tmp), l[i]? = some oi → l[j]? = some oj → oi.dst = some d → oj.dst = some d → i = j) →
    (putAll a l L).tmps.size = a.tmps.size ∧ (putAll a l L).defers = a.defers ∧ (∀ d, (∀ (j : Nat) (o : Oper), l[j]? = some o → o.dst ≠ some d) → (putAll a l L).tmps.getD d undef = a.tmps.getD d undef) ∧
    (∀ (j : Nat) (o : Oper) (d : Tmp), l[j]? = some o → o.dst = some d → d < a.tmps.size → (putAll a l L).tmps.getD d undef = L.getD j undef)
  | [], L, a, _ => ⟨rfl, rfl, fun _ _ => rfl, fun j o d h => by simp at h⟩
  | o :: l, L, a, hd => by
    have hd' : ∀ (i j : Nat) (oi oj : Oper) (d : Tmp), l[i]? = some oi → l[j]? = some oj → oi.dst = some d → oj.dst = some d → i = j := fun i j oi oj d h1 h2 h3 h4 => by
      have := hd (i + 1) (j + 1) oi oj d (by simpa using h1) (by simpa using h2) h3 h4
      omega
    obtain ⟨s1, s2, s3, s4⟩ := putAll_spec l L.tail (a.put o.dst (L.headD undef)) hd'
    have hsz : (a.put o.dst (L.headD undef)).tmps.size = a.tmps.size := by cases o.dst <;> simp [Act.put]
    have hdf : (a.put o.dst (L.headD undef)).defers = a.defers := by cases o.dst <;> rfl
    refine ⟨s1.trans hsz, s2.trans hdf, fun d h => ?_, fun j o' d hj hdst hlt => ?_⟩
    · refine (s3 d fun j o' hj => h (j + 1) o' (by simpa using hj)).trans ?_
      have := h 0 o (by simp)
      cases he : o.dst with
      | none => rfl
      | some d' => exact getD_put_other _ _ _ _ (fun e => this (by rw [he, e]))
    · cases j with
      | zero =>
        simp only [List.getElem?_cons_zero, Option.some.injEq] at hj
        subst hj
        refine (s3 d fun j o' hj' e => ?_).trans ?_
        · have := hd 0 (j + 1) o o' d (by simp) (by simpa using hj') hdst e
          omega
        · rw [hdst, getD_put_same _ _ _ hlt]
          cases L <;> rfl
      | succ j =>
        simp only [List.getElem?_cons_succ] at hj
        have := s4 j o' d hj hdst (by rw [hsz]; exact hlt)
        refine this.trans ?_
        cases L <;> simp

theorem Ends.act {ops : Array Oper} {R : Nat → Value → Prop} {a0 a : Act} {c : Nat} (he : Ends ops R a0 a) (hB : lrB ops a0.tmps.size c = true) (L : List Value)
    (hL : ∀ (j : Nat) (o : Oper) (d : Tmp), ops[j]? = some o → o.dst = some d → a.tmps.getD d undef = L.getD j undef) : a = putAll a0 ops.toList L := by
  obtain ⟨_, _, hdst, hin, _⟩ := lrB_spec hB
  obtain ⟨s1, s2, s3, s4⟩ := putAll_spec ops.toList L a0 (fun i j oi oj d h1 h2 => hdst i j oi oj d (by simpa using h1) (by simpa using h2))
  have ht : a.tmps = (putAll a0 ops.toList L).tmps := by
    apply Array.ext
    · rw [s1, he.size]
    · intro d h1 h2
      have e1 : a.tmps[d] = a.tmps.getD d undef := by simp [Array.getD, h1]
      have e2 : (putAll a0 ops.toList L).tmps[d] = (putAll a0 ops.toList L).tmps.getD d undef := by simp [Array.getD, h2]
      rw [e1, e2]
      by_cases hex : ∃ (j : Nat) (o : Oper), ops[j]? = some o ∧ o.dst = some d
      · obtain ⟨j, o, ho, hd⟩ := hex
        rw [s4 j o d (by simpa using ho) hd (hin j o d ho hd)]
        exact hL j o d ho hd
      · have hno : ∀ (j : Nat) (o : Oper), ops[j]? = some o → o.dst ≠ some d := fun j o ho e => hex ⟨j, o, ho, e⟩
        rw [s3 d (fun j o ho => hno j o (by simpa using ho))]
        refine he.rest d ?_
        unfold notDst
        refine Array.all_eq_true'.2 fun o ho => ?_
        obtain ⟨j, hj, rfl⟩ := Array.mem_iff_getElem.1 ho
        simpa using hno j _ (by simp [hj])
  cases a
  cases hp : putAll a0 ops.toList L
  rw [hp] at ht s2
  simp only at ht s2
  have hd := he.defers
  simp only at hd
  rw [ht, hd, s2]
theorem Ends.of_list {ops : Array Oper} {a0 a : Act} {c : Nat} {L : List Value} (he : Ends ops (fun j v => v = L.getD j undef) a0 a) (hB : lrB ops a0.tmps.size c = true) : a = putAll a0 ops.toList L :=
  he.act hB L fun j o d hj hd => he.done j o d hj hd

/-! ### the operations -/
theorem Ybad.inf36 : (Ybad.prog.info? 36).map (fun i => (i.zero, i.size, i.bytes)) = some (some (.agg #[.float .f64 0, .float .f64 0]), 2, 16) := by kernel_rfl
theorem Ybad.inf41 : (Ybad.prog.info? 41).map (fun i => (i.zero, i.size, i.bytes)) = some (some (.agg #[.float .f64 0, .float .f64 0]), 2, 16) := by kernel_rfl
theorem Ybad.inf22 : (Ybad.prog.info? 22).map (fun i => (i.zero, i.size, i.bytes)) = some (some (.float .f64 0), 1, 8) := by kernel_rfl
theorem Ybad.inf43 : (Ybad.prog.info? 43).map (fun i => (i.zero, i.size, i.bytes)) = some (some (.agg #[.int .i64 0, .int .i64 0]), 2, 16) := by kernel_rfl
theorem run_size {t : TypeId} {z : Value} {n b : Nat} (h : (Ybad.prog.info? t).map (fun i => (i.zero, i.size, i.bytes)) = some (some z, n, b)) (w : World) : (sizeOf t).run Ybad.prog w = .ok n w := by
  obtain ⟨i, hi, h0, h1, h2⟩ := info_parts h
  simp [sizeOf, typeInfo, hi, h1]
theorem info_size {t : TypeId} {z : Value} {n b : Nat} (h : (Ybad.prog.info? t).map (fun i => (i.zero, i.size, i.bytes)) = some (some z, n, b)) : (Ybad.prog.info? t).map (·.size) = some n := by
  obtain ⟨i, hi, h0, h1, h2⟩ := info_parts h
  rw [hi]; exact congrArg some h1

section
variable {C : World → Prop} {S : Value → Prop} {a : Act} {w : World} {d : Option Tmp} {ty : TypeId} {pos : String} {af : Array Edge}
theorem LUpon_index {x y : Operand} {t e : TypeId} {b o n c : Nat} {k sz : Nat} (hu : Ybad.prog.underlying t = some (.slice e)) (hs : ∀ w, (sizeOf e).run Ybad.prog w = .ok sz w) (hC : C w) (hx : a.eval x = .slice (some ⟨b, o, none⟩) n c) (hy : a.eval y = .int .i64 (k : Int)) (hk : k < n) (hS : S (.pointer (some ⟨b, o + k * sz, none⟩))) :
    LUpon Ybad.prog C S ((execOp a.eval { dst := d, op := .indexAddr t x y, type := ty, pos := pos, after := af, guard := none }).run Ybad.prog w) := by
  obtain ⟨ρ, hρ⟩ : ∃ ρ, a.eval = ρ := ⟨_, rfl⟩
  rw [hρ] at hx hy ⊢
  have hk' : (k : Int) < (n : Int) := by omega
  simp [execOp, hx, hy, hu, hs, hk', go_sem, LUpon]
  exact ⟨hS, hC⟩
theorem LUpon_field41 {x : Operand} {b o i : Nat} (hC : C w) (hx : a.eval x = .pointer (some ⟨b, o, none⟩)) (hi : i = 0 ∨ i = 1) (hS : S (.pointer (some ⟨b, o + i, none⟩))) :
    LUpon Ybad.prog C S ((execOp a.eval { dst := d, op := .fieldAddr 41 x i, type := ty, pos := pos, after := af, guard := none }).run Ybad.prog w) := by
  have hu := Ybad.underlying41
  obtain ⟨ρ, hρ⟩ : ∃ ρ, a.eval = ρ := ⟨_, rfl⟩
  rw [hρ] at hx ⊢
  rcases hi with rfl | rfl
  · simp [execOp, hx, go_sem, LUpon]
    exact ⟨hS, hC⟩
  · simp [execOp, hx, go_sem, LUpon]
    exact ⟨hS, hC⟩
theorem LUpon_build36 {x y : Operand} {X Y : Nat} (hC : C w) (hx : a.eval x = .float .f64 X) (hy : a.eval y = .float .f64 Y) (hS : S (.agg #[.float .f64 X, .float .f64 Y])) :
    LUpon Ybad.prog C S ((execOp a.eval { dst := d, op := .build 36 #[(0, x), (1, y)], type := ty, pos := pos, after := af, guard := none }).run Ybad.prog w) := by
  have hu := Ybad.underlying36
  obtain ⟨i, hi, h0, h1, h2⟩ := info_parts Ybad.inf36
  obtain ⟨ρ, hρ⟩ : ∃ ρ, a.eval = ρ := ⟨_, rfl⟩
  rw [hρ] at hx hy ⊢
  simp [execOp, hx, hy, hi, h0, go_sem, LUpon]
  exact ⟨hS, hC⟩
theorem LUpon_store36 {x y : Operand} {b o : Nat} {X Y : Nat} (ht : w.there b o 2) (hx : a.eval x = .pointer (some ⟨b, o, none⟩)) (hy : a.eval y = .agg #[.float .f64 X, .float .f64 Y])
    (hC : C ((w.setCell ⟨b, o, none⟩ (.float .f64 X)).setCell ⟨b, o + 1, none⟩ (.float .f64 Y))) (hS : S undef) :
    LUpon Ybad.prog C S ((execOp a.eval { dst := d, op := .store 36 x y, type := ty, pos := pos, after := af, guard := none }).run Ybad.prog w) := by
  have hr := run_storeAt_mid (P := Ybad.prog) w b o 36 #[.float .f64 X, .float .f64 Y] ht (info_size Ybad.inf36) (by simp [Value.oneCell'])
  simp only [execOp, hx, hy, Sem.run_bind, hr, Result.andThen_ok, Sem.run_pure]
  exact ⟨hS, hC⟩
theorem LUpon_load36 {x : Operand} {b o : Nat} {X Y : Nat} (hC : C w) (hx : a.eval x = .pointer (some ⟨b, o, none⟩)) (h1 : w.cell? ⟨b, o, none⟩ = some (.float .f64 X)) (h2 : w.cell? ⟨b, o + 1, none⟩ = some (.float .f64 Y)) (hS : S (.agg #[.float .f64 X, .float .f64 Y])) :
    LUpon Ybad.prog C S ((execOp a.eval { dst := d, op := .load 36 x, type := ty, pos := pos, after := af, guard := none }).run Ybad.prog w) := by
  have hr := run_loadAt_mid (P := Ybad.prog) w b o 36 [.float .f64 X, .float .f64 Y] _ (by
    intro j v hj
    rcases j with _ | _ | j
    · cases hj; exact h1
    · cases hj; exact h2
    · simp at hj) Ybad.underlying36 rfl (info_size Ybad.inf36)
  simp [execOp, hx, hr, LUpon]
  exact ⟨hS, hC⟩
end
end Go.Proofs.YbulkcivsDoor
