/-
  Rows of memory by a predicate; the frame behind a region that drew; stores. (My own texts of the seat before, turned to this program.)
-/
import Derived.Test.YbulkcixiLq
import Derived.Test.YbulkcixiRows
import Derived.WalkKit
import Derived.Carry
import Derived.WalkSpells
import Derived.WalkLawsBesides
import Derived.Deep.MidRow
namespace Go.Proofs.Ybulkcixi
open Go.RowKit
set_option linter.unusedVariables false
set_option linter.unusedSimpArgs false

/-- Block B holds n cells; each is as F says. -/
structure Row (w : World) (B : Nat) (t : TypeId) (n : Nat) (F : Nat → Value → Prop) : Prop where
  row : ∃ xs : Array Value, w.heap[B]? = some (.cells xs t (0, 0)) ∧ xs.size = n ∧ ∀ i v, xs[i]? = some v → F i v

theorem Row.lt {w : World} {B n : Nat} {t : TypeId} {F : Nat → Value → Prop} (h : Row w B t n F) : B < w.heap.size := by
  obtain ⟨xs, h1, _, _⟩ := h.row
  rcases Nat.lt_or_ge B w.heap.size with h | h
  · exact h
  · simp [Array.getElem?_eq_none h] at h1
theorem Row.cell {w : World} {B n : Nat} {t : TypeId} {F : Nat → Value → Prop} (h : Row w B t n F) {i : Nat} (hi : i < n) : ∃ v, w.cell? ⟨B, i, none⟩ = some v ∧ F i v := by
  obtain ⟨xs, h1, h2, h3⟩ := h.row
  refine ⟨xs[i]'(by omega), ?_, h3 i _ (by simp [show i < xs.size by omega])⟩
  simp [World.cell?, h1, show i < xs.size by omega]
theorem Row.frozen {w : World} {B n : Nat} {t : TypeId} {F : Nat → Value → Prop} (h : Row w B t n F) (i : Nat) : w.frozen? ⟨B, i, none⟩ = false := by
  obtain ⟨xs, h1, h2, h3⟩ := h.row
  simp [World.frozen?, h1]
theorem Row.there {w : World} {B n : Nat} {t : TypeId} {F : Nat → Value → Prop} (h : Row w B t n F) (o m : Nat) (ho : o + m ≤ n) : w.there B o m := fun j hj => by
  obtain ⟨v, hv, _⟩ := h.cell (i := o + j) (by omega)
  exact ⟨by rw [hv]; rfl, h.frozen _⟩
theorem Row.mono {w : World} {B n : Nat} {t : TypeId} {F G : Nat → Value → Prop} (h : Row w B t n F) (hg : ∀ i v, i < n → F i v → G i v) : Row w B t n G := by
  obtain ⟨xs, h1, h2, h3⟩ := h.row
  refine ⟨xs, h1, h2, fun i v hv => hg i v ?_ (h3 i v hv)⟩
  rcases Nat.lt_or_ge i xs.size with h | h
  · omega
  · simp [Array.getElem?_eq_none h] at hv
theorem Row.of_heap {w W : World} {B n : Nat} {t : TypeId} {F : Nat → Value → Prop} (h : Row w B t n F) (e : W.heap[B]? = w.heap[B]?) : Row W B t n F := by
  obtain ⟨xs, h1, h2, h3⟩ := h.row
  exact ⟨xs, e.trans h1, h2, h3⟩
theorem Row.later {w W : World} {B n k : Nat} {t : TypeId} {F : Nat → Value → Prop} (h : Row w B t n F) (hb : Below k w W) (hk : B < k) : Row W B t n F := h.of_heap (hb.block B hk)
theorem Row.drewN {w : World} {B n : Nat} {t : TypeId} {F : Nat → Value → Prop} (h : Row w B t n F) (m : Nat) : Row (w.drewN m) B t n F := h.of_heap rfl
theorem Row.setOther {w : World} {B n : Nat} {t : TypeId} {F : Nat → Value → Prop} (h : Row w B t n F) (p : Addr) (v : Value) (hp : B ≠ p.block) : Row (w.setCell p v) B t n F :=
  h.of_heap (Below.heap_setCell w p v B hp)
theorem Row.set {w : World} {B n : Nat} {t : TypeId} {F : Nat → Value → Prop} (h : Row w B t n F) (j : Nat) (v : Value) : Row (w.setCell ⟨B, j, none⟩ v) B t n (fun i x => if i = j then x = v else F i x) := by
  obtain ⟨xs, h1, h2, h3⟩ := h.row
  refine ⟨xs.setIfInBounds j v, ?_, by simpa using h2, fun i x hx => ?_⟩
  · have hlt := h.lt
    have h' : w.heap[B] = .cells xs t (0, 0) := by simpa [Array.getElem?_eq_getElem hlt] using h1
    show (w.heap.modify B _)[B]? = _
    simp [Array.getElem?_modify, h1]
  · rw [Array.getElem?_setIfInBounds] at hx
    by_cases e : j = i
    · subst e
      rw [if_pos rfl] at hx
      rw [if_pos rfl]
      split at hx
      · exact (Option.some.inj hx).symm
      · cases hx
    · rw [if_neg e] at hx
      rw [if_neg (fun h => e h.symm)]
      exact h3 i x hx
theorem Row.alloc (w : World) (xs : Array Value) (t : TypeId) (F : Nat → Value → Prop) (h : ∀ i v, xs[i]? = some v → F i v) : Row (w.alloc (.cells xs t)) w.heap.size t xs.size F :=
  ⟨xs, heap_alloc_new w _, rfl, h⟩

theorem cell_row1 {w : World} {B n : Nat} {t : TypeId} {F : Nat → Value} (h : Row w B t n (fun i v => v = F i)) {i : Nat} (hi : i < n) : w.cell? ⟨B, i, none⟩ = some (F i) := by
  obtain ⟨v, hv, rfl⟩ := h.cell hi
  exact hv

/-! ### the frame behind a region -/
def putAll : Act → List Oper → List Value → Act
  | a, [], _ => a
  | a, o :: l, L => putAll (a.put o.dst (L.headD undef)) l L.tail

theorem putAll_spec : ∀ (l : List Oper) (L : List Value) (a : Act), (∀ (i j : Nat) (oi oj : Oper) (d : Tmp), l[i]? = some oi → l[j]? = some oj → oi.dst = some d → oj.dst = some d → i = j) →
    (putAll a l L).tmps.size = a.tmps.size ∧ (putAll a l L).defers = a.defers ∧ (∀ d, (∀ (j : Nat) (o : Oper), l[j]? = some o → o.dst ≠ some d) → (putAll a l L).tmps.getD d undef = a.tmps.getD d undef) ∧
    (∀ (j : Nat) (o : Oper) (d : Tmp), l[j]? = some o → o.dst = some d → d < a.tmps.size → (putAll a l L).tmps.getD d undef = L.getD j undef)
  | [], L, a, _ => ⟨rfl, rfl, fun _ _ => rfl, fun j o d h => by simp at h⟩
  | o :: l, L, a, hd => by
    have hd' : ∀ (i j : Nat) (oi oj : Oper) (d : Tmp), l[i]? = some oi → l[j]? = some oj → oi.dst = some d → oj.dst = some d → i = j := fun i j oi oj d h1 h2 h3 h4 => by
      have := hd (i + 1) (j + 1) oi oj d (by simpa using h1) (by simpa using h2) h3 h4
      omega
    obtain ⟨s1, s2, s3, s4⟩ := putAll_spec l L.tail (a.put o.dst (L.headD undef)) hd'
    have hsz : (a.put o.dst (L.headD undef)).tmps.size = a.tmps.size := by cases o.dst <;> simp [Act.put]
    have hdf : (a.put o.dst (L.headD undef)).defers = a.defers := by cases o.dst <;> rfl
    refine ⟨s1.trans hsz, s2.trans hdf, fun d h => ?_, fun j o' d hj hdst hlt => ?_⟩
    · refine (s3 d fun j o' hj => h (j + 1) o' (by simpa using hj)).trans ?_
      have := h 0 o (by simp)
      cases he : o.dst with
      | none => rfl
      | some d' => exact getD_put_other _ _ _ _ (fun e => this (by rw [he, e]))
    · cases j with
      | zero =>
        simp only [List.getElem?_cons_zero, Option.some.injEq] at hj
        subst hj
        refine (s3 d fun j o' hj' e => ?_).trans ?_
        · have := hd 0 (j + 1) o o' d (by simp) (by simpa using hj') hdst e
          omega
        · rw [hdst, getD_put_same _ _ _ hlt]
          cases L <;> rfl
      | succ j =>
        simp only [List.getElem?_cons_succ] at hj
        have := s4 j o' d hj hdst (by rw [hsz]; exact hlt)
        refine this.trans ?_
        cases L <;> simp

theorem Ends.act {ops : Array Oper} {R : Nat → Value → Prop} {a0 a : Act} {c : Nat} (he : Ends ops R a0 a) (hB : lrB ops a0.tmps.size c = true) (L : List Value)
    (hL : ∀ (j : Nat) (o : Oper) (d : Tmp), ops[j]? = some o → o.dst = some d → a.tmps.getD d undef = L.getD j undef) : a = putAll a0 ops.toList L := by
  obtain ⟨_, _, hdst, hin, _⟩ := lrB_spec hB
  obtain ⟨s1, s2, s3, s4⟩ := putAll_spec ops.toList L a0 (fun i j oi oj d h1 h2 => hdst i j oi oj d (by simpa using h1) (by simpa using h2))
  have ht : a.tmps = (putAll a0 ops.toList L).tmps := by
    apply Array.ext
    · rw [s1, he.size]
    · intro d h1 h2
      have e1 : a.tmps[d] = a.tmps.getD d undef := by simp [Array.getD, h1]
      have e2 : (putAll a0 ops.toList L).tmps[d] = (putAll a0 ops.toList L).tmps.getD d undef := by simp [Array.getD, h2]
      rw [e1, e2]
      by_cases hex : ∃ (j : Nat) (o : Oper), ops[j]? = some o ∧ o.dst = some d
      · obtain ⟨j, o, ho, hd⟩ := hex
        rw [s4 j o d (by simpa using ho) hd (hin j o d ho hd)]
        exact hL j o d ho hd
      · have hno : ∀ (j : Nat) (o : Oper), ops[j]? = some o → o.dst ≠ some d := fun j o ho e => hex ⟨j, o, ho, e⟩
        rw [s3 d (fun j o ho => hno j o (by simpa using ho))]
        refine he.rest d ?_
        unfold notDst
        refine Array.all_eq_true'.2 fun o ho => ?_
        obtain ⟨j, hj, rfl⟩ := Array.mem_iff_getElem.1 ho
        simpa using hno j _ (by simp [hj])
  cases a
  cases hp : putAll a0 ops.toList L
  rw [hp] at ht s2
  simp only at ht s2
  have hd := he.defers
  simp only at hd
  rw [ht, hd, s2]
theorem Ends.of_list {ops : Array Oper} {a0 a : Act} {c : Nat} {L : List Value} (he : Ends ops (fun j v => v = L.getD j undef) a0 a) (hB : lrB ops a0.tmps.size c = true) : a = putAll a0 ops.toList L :=
  he.act hB L fun j o d hj hd => he.done j o d hj hd

/-- Block B alone has turned. -/
structure Turn (B : Nat) (w W : World) : Prop where
  os : W.os = w.os
  tape : W.tape = w.tape
  output : W.output = w.output
  size : W.heap.size = w.heap.size
  other : ∀ k, k ≠ B → W.heap[k]? = w.heap[k]?
theorem Turn.refl (B : Nat) (w : World) : Turn B w w := ⟨rfl, rfl, rfl, rfl, fun _ _ => rfl⟩
theorem Turn.trans {B : Nat} {a b c : World} (h : Turn B a b) (k : Turn B b c) : Turn B a c := ⟨k.os.trans h.os, k.tape.trans h.tape, k.output.trans h.output, k.size.trans h.size, fun i hi => (k.other i hi).trans (h.other i hi)⟩
theorem Turn.set (B j : Nat) (w : World) (v : Value) : Turn B w (w.setCell ⟨B, j, none⟩ v) :=
  ⟨rfl, rfl, rfl, by simp [World.setCell], fun k hk => Below.heap_setCell w ⟨B, j, none⟩ v k hk⟩
theorem Turn.sets (B : Nat) : ∀ (cs : List Value) (o : Nat) (w : World), Turn B w (w.setCells B o cs)
  | [], _, w => Turn.refl B w
  | v :: l, o, w => (Turn.set B o w v).trans (Turn.sets B l (o + 1) _)
theorem Turn.below {B : Nat} {w W : World} (h : Turn B w W) : Below B w W := ⟨h.os, h.tape, h.output, by rw [h.size]; exact Nat.le_refl _, fun k hk => h.other k (by omega)⟩
theorem Turn.row {B k n : Nat} {w W : World} {t : TypeId} {F : Nat → Value → Prop} (h : Turn B w W) (hr : Row w k t n F) (hk : k ≠ B) : Row W k t n F := hr.of_heap (h.other k hk)

theorem Row.sets {B n : Nat} {t : TypeId} : ∀ (cs : List Value) (o : Nat) (w : World) (F : Nat → Value → Prop), Row w B t n F → Row (w.setCells B o cs) B t n (fun i v => (o ≤ i → i < o + cs.length → v = cs.getD (i - o) undef) ∧ ((i < o ∨ o + cs.length ≤ i) → F i v))
  | [], o, w, F, h => h.mono fun i v _ hf => ⟨fun h1 h2 => by simp at h2; omega, fun _ => hf⟩
  | u :: l, o, w, F, h => by
    refine (Row.sets l (o + 1) _ _ (h.set o u)).mono fun i v _ hf => ⟨fun h1 h2 => ?_, fun h1 => ?_⟩
    · by_cases e : i = o
      · subst e
        have := hf.2 (.inl (by omega))
        rw [if_pos rfl] at this
        simp [this]
      · have := hf.1 (by omega) (by simp at h2; omega)
        rw [this, show i - o = (i - (o + 1)) + 1 by omega]
        rfl
    · have := hf.2 (by simp at h1; omega)
      rw [if_neg (by simp at h1; omega)] at this
      exact this

/-- A NAME FOR 'a store stands next'. -/
structure StOp (P : Program) (ops : Array Oper) (Q : Exit → Act → World → Prop) (rest : List Oper) (a : Act) (w : World) (d : Option Tmp) (t : TypeId) (x y : Operand) (ty : TypeId) (pos : String) (af : Array Edge) : Prop where
  out : wpList P ops Q ({ dst := d, op := .store t x y, type := ty, pos := pos, after := af, guard := none } :: rest) a w
theorem st_guard (P : Program) (ops : Array Oper) (Q : Exit → Act → World → Prop) (rest : List Oper) (a : Act) (w : World) (d : Option Tmp) (t : TypeId) (x y : Operand) (ty : TypeId) (pos : String) (af : Array Edge) :
    wpList P ops Q ({ dst := d, op := .store t x y, type := ty, pos := pos, after := af, guard := none } :: rest) a w = StOp P ops Q rest a w d t x y ty pos af := propext ⟨fun h => ⟨h⟩, fun h => h.out⟩

section
variable {ops : Array Oper} {Q : Exit → Act → World → Prop} {rest : List Oper} {a : Act} {w : World} {d : Option Tmp} {x y : Operand} {ty : TypeId} {pos : String} {af : Array Edge}
theorem law_store (t t' : TypeId) (B : Nat) (cs : List Value) (F : Nat → Value → Prop) (hi : (Yba.prog.info? t).map (·.size) = some cs.length) (hx : a.eval x = .pointer (some ⟨B, 0, none⟩)) (hy : a.eval y = .agg cs.toArray)
    (hrow : Row w B t' cs.length F) (h1 : cs.all (·.oneCell') = true)
    (h : ∀ W, Turn B w W → Row W B t' cs.length (fun i v => v = cs.getD i undef) → wpList Yba.prog ops Q rest (a.put d undef) W) : StOp Yba.prog ops Q rest a w d t x y ty pos af := by
  refine ⟨wpList_store_mid rfl t x y rfl B 0 cs.toArray hx hy (hrow.there 0 _ (by simp)) (by simpa using hi) (all_oneCell_toArray (List.all_eq_true.1 h1)) ?_⟩
  have e : cs.toArray.toList = cs := by simp
  rw [e]
  refine h _ (Turn.sets B cs 0 w) ((Row.sets cs 0 w F hrow).mono fun i v hi hf => ?_)
  have := hf.1 (Nat.zero_le _) (by omega)
  simpa using this
end
end Go.Proofs.Ybulkcixi
