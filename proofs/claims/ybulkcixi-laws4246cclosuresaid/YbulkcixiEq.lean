/-
  Equality of the structs that this seat compares.
-/
import Derived.Test.YbulkcixiBuild
import Derived.Laws.StructEq
namespace Go.Proofs.Ybulkcixi
open Go.RowKit
set_option linter.unusedVariables false
set_option linter.unusedSimpArgs false

theorem Yba.held37 : Yba.prog.stoodInHeld 37 = false := by kernel_rfl
theorem Yba.held47 : Yba.prog.stoodInHeld 47 = false := by kernel_rfl
theorem Yba.held40 : Yba.prog.stoodInHeld 40 = false := by kernel_rfl
theorem Yba.fields37 : Yba.prog.underlying 37 = some (.struct (Yba.prog.fieldsOf 37)) := by kernel_rfl
theorem Yba.fields47 : Yba.prog.underlying 47 = some (.struct (Yba.prog.fieldsOf 47)) := by kernel_rfl
theorem Yba.fields40 : Yba.prog.underlying 40 = some (.struct (Yba.prog.fieldsOf 40)) := by kernel_rfl

theorem eq37 (d : Nat) (n n' : Int) (b b' : Bool) (w : World) : (Op.equalIn (d + 2) 37 (.agg #[.int .i64 n, .bool b]) (.agg #[.int .i64 n', .bool b'])).run Yba.prog w = .ok (n == n' && b == b') w := by
  have hf := Option.some.inj (Yba.fields37.symm.trans Yba.underlying37)
  injection hf with hf
  have u2 := Yba.underlying2
  have u4 := Yba.underlying4
  rw [run_equalIn_agg w (d + 1) 37 _ _ Yba.fields37 Yba.held37, hf]
  cases h1 : (n == n') <;> cases h2 : (b == b') <;> simp [Op.eqFields, go_sem, u2, u4, h1, h2]

/-- A key of the map, as data. -/
structure KV where
  key : ByteArray
  n : Int
  b : Bool
def kvV (k : KV) : Value := .agg #[.string k.key, .int .i64 k.n, .bool k.b]
def kvEq (x y : KV) : Bool := x.key.toList == y.key.toList && (x.n == y.n && x.b == y.b)

theorem eq47 (d : Nat) (x y : KV) (w : World) : (Op.equalIn (d + 3) 47 (kvV x) (kvV y)).run Yba.prog w = .ok (kvEq x y) w := by
  have hf := Option.some.inj (Yba.fields47.symm.trans Yba.underlying47)
  injection hf with hf
  have u9 := Yba.underlying9
  have p37 : ∀ (k : KV), (part 37 #[.string k.key, .int .i64 k.n, .bool k.b] 1).run Yba.prog w = .ok (.agg #[.int .i64 k.n, .bool k.b]) w := by
    intro k
    have u37 := Yba.underlying37
    obtain ⟨i, hi, h0, h1, h2⟩ := info_parts Yba.inf37
    simp [part, go_sem, u37, sizeOf, typeInfo, hi, h1]
  unfold kvV kvEq
  rw [run_equalIn_agg w (d + 2) 47 _ _ Yba.fields47 Yba.held47, hf]
  cases h1 : (x.key.toList == y.key.toList)
  · simp [Op.eqFields, go_sem, u9, h1]
  · simp [Op.eqFields, go_sem, u9, h1, p37, eq37]
    by_cases hn : x.n = y.n <;> by_cases hb : x.b = y.b <;> simp [hn, hb]

theorem kvEq_iff (x y : KV) : kvEq x y = true ↔ x = y := by
  unfold kvEq
  cases x; cases y
  simp only [Bool.and_eq_true, beq_iff_eq, KV.mk.injEq]
  rename_i k1 n1 b1 k2 n2 b2
  constructor
  · rintro ⟨h1, h2, h3⟩
    refine ⟨?_, h2, h3⟩
    obtain ⟨⟨a⟩⟩ := k1
    obtain ⟨⟨b⟩⟩ := k2
    have : a = b := by simpa [ByteArray.toList_eq] using h1
    rw [this]
  · rintro ⟨rfl, rfl, rfl⟩
    exact ⟨rfl, rfl, rfl⟩

/-! ### the map, at run level -/
structure Ent where
  k : KV
  v : Value
  born : Nat
def toE (e : Ent) : MapEntry := { key := kvV e.k, val := e.v, born := e.born }

def findE (k : KV) : List Ent → Nat → Option (Nat × Value)
  | [], _ => none
  | e :: es, i => if kvEq k e.k then some (i, e.v) else findE k es (i + 1)

theorem run_asking (k : KV) (w : World) : ∀ (es : List Ent) (i : Nat), (Instr.findAsking 47 (kvV k) (es.map toE) i).run Yba.prog w = .ok (findE k es i) w
  | [], i => by simp [Instr.findAsking, findE]
  | e :: es, i => by
    have h := eq47 9997 k e.k w
    have ih := run_asking k w es (i + 1)
    simp only [List.map_cons, Instr.findAsking, Sem.run_bind, findE]
    have h' : (Op.equal 47 (kvV k) (toE e).key).run Yba.prog w = .ok (kvEq k e.k) w := h
    rw [h']
    cases hk : kvEq k e.k
    · simpa [Result.andThen] using ih
    · simp [Result.andThen, toE]

theorem run_findKey (k : KV) (es : List Ent) (w : World) : (Instr.findKey 47 (kvV k) (es.map toE)).run Yba.prog w = .ok (findE k es 0) w := by
  have u := Yba.underlying47
  unfold Instr.findKey
  simp only [Sem.run_bind, run_underlying u, Result.andThen_ok]
  cases es with
  | nil => simp [Instr.findNow, findE]
  | cons e es =>
    have : Instr.findNow (.struct (Yba.prog.fieldsOf 47)) (kvV k) ((e :: es).map toE) 0 = none := by simp [Instr.findNow, Instr.sameNow]
    have hf := Option.some.inj (Yba.fields47.symm.trans Yba.underlying47)
    rw [hf] at this
    rw [this]
    exact run_asking k w (e :: es) 0
end Go.Proofs.Ybulkcixi
