/-
  The operations that the drawn regions of this seat meet; the key's function; the calls as data.
-/
import Derived.Test.YbulkcixiRw
namespace Go.Proofs.Ybulkcixi
open Go.RowKit
set_option linter.unusedVariables false
set_option linter.unusedSimpArgs false

theorem Yba.inf40 : (Yba.prog.info? 40).map (fun i => (i.zero, i.size, i.bytes)) = some (some (.agg #[.string ⟨#[]⟩, .int .u8 0, .string ⟨#[]⟩, .int .i64 0, .bool false, .int .i64 0, .bool false, .int .u8 0, .int .i64 0, .int .i64 0, .int .i64 0, .int .i64 0]), 12, 112) := by kernel_rfl
theorem Yba.inf43 : (Yba.prog.info? 43).map (fun i => (i.zero, i.size, i.bytes)) = some (some (.agg #[.int .u8 0, .int .u8 0, .int .u8 0, .int .u8 0, .bool false, .int .u8 0, .bool false]), 7, 7) := by kernel_rfl
theorem Yba.inf37 : (Yba.prog.info? 37).map (fun i => (i.zero, i.size, i.bytes)) = some (some (.agg #[.int .i64 0, .bool false]), 2, 16) := by kernel_rfl
theorem Yba.inf47 : (Yba.prog.info? 47).map (fun i => (i.zero, i.size, i.bytes)) = some (some (.agg #[.string ⟨#[]⟩, .int .i64 0, .bool false]), 3, 32) := by kernel_rfl
theorem Yba.inf4 : (Yba.prog.info? 4).map (fun i => (i.zero, i.size, i.bytes)) = some (some (.bool false), 1, 1) := by kernel_rfl
theorem Yba.inf3 : (Yba.prog.info? 3).map (fun i => (i.zero, i.size, i.bytes)) = some (some (.int .i64 0), 1, 8) := by kernel_rfl
theorem run_size {t : TypeId} {z : Value} {n b : Nat} (h : (Yba.prog.info? t).map (fun i => (i.zero, i.size, i.bytes)) = some (some z, n, b)) (w : World) : (sizeOf t).run Yba.prog w = .ok n w := by
  obtain ⟨i, hi, h0, h1, h2⟩ := info_parts h
  simp [sizeOf, typeInfo, hi, h1]
theorem info_size {t : TypeId} {z : Value} {n b : Nat} (h : (Yba.prog.info? t).map (fun i => (i.zero, i.size, i.bytes)) = some (some z, n, b)) : (Yba.prog.info? t).map (·.size) = some n := by
  obtain ⟨i, hi, h0, h1, h2⟩ := info_parts h
  rw [hi]; exact congrArg some h1

section
variable {C : World → Prop} {S : Value → Prop} {a : Act} {w : World} {d : Option Tmp} {ty : TypeId} {pos : String} {af : Array Edge}
theorem LUpon_move {P : Program} {x : Operand} (hC : C w) (hx : S (a.eval x)) :
    LUpon P C S ((execOp a.eval { dst := d, op := .move x, type := ty, pos := pos, after := af, guard := none }).run P w) := by
  simp [execOp, LUpon]
  exact ⟨hx, hC⟩
theorem LUpon_index {x y : Operand} {t e : TypeId} {b o n c : Nat} {k sz : Nat} (hu : Yba.prog.underlying t = some (.slice e)) (hs : ∀ w, (sizeOf e).run Yba.prog w = .ok sz w) (hC : C w) (hx : a.eval x = .slice (some ⟨b, o, none⟩) n c) (hy : a.eval y = .int .i64 (k : Int)) (hk : k < n) (hS : S (.pointer (some ⟨b, o + k * sz, none⟩))) :
    LUpon Yba.prog C S ((execOp a.eval { dst := d, op := .indexAddr t x y, type := ty, pos := pos, after := af, guard := none }).run Yba.prog w) := by
  obtain ⟨ρ, hρ⟩ : ∃ ρ, a.eval = ρ := ⟨_, rfl⟩
  rw [hρ] at hx hy ⊢
  have hk' : (k : Int) < (n : Int) := by omega
  simp [execOp, hx, hy, hu, hs, hk', go_sem, LUpon]
  exact ⟨hS, hC⟩
theorem LUpon_field43 {x : Operand} {b i : Nat} (hC : C w) (hx : a.eval x = .pointer (some ⟨b, 0, none⟩)) (hi : i < 7) (hS : S (.pointer (some ⟨b, i, none⟩))) :
    LUpon Yba.prog C S ((execOp a.eval { dst := d, op := .fieldAddr 43 x i, type := ty, pos := pos, after := af, guard := none }).run Yba.prog w) := by
  have hu := Yba.underlying43
  obtain ⟨ρ, hρ⟩ : ∃ ρ, a.eval = ρ := ⟨_, rfl⟩
  rw [hρ] at hx ⊢
  have h7 : i = 0 ∨ i = 1 ∨ i = 2 ∨ i = 3 ∨ i = 4 ∨ i = 5 ∨ i = 6 := by omega
  rcases h7 with rfl | rfl | rfl | rfl | rfl | rfl | rfl <;> simp [execOp, hx, go_sem, LUpon] <;> exact ⟨hS, hC⟩
theorem LUpon_field40 {x : Operand} {b i o : Nat} (hC : C w) (hx : a.eval x = .pointer (some ⟨b, 0, none⟩)) (hi : (i = 1 ∧ o = 1) ∨ (i = 2 ∧ o = 2) ∨ (i = 3 ∧ o = 3) ∨ (i = 4 ∧ o = 5) ∨ (i = 5 ∧ o = 7)) (hS : S (.pointer (some ⟨b, o, none⟩))) :
    LUpon Yba.prog C S ((execOp a.eval { dst := d, op := .fieldAddr 40 x i, type := ty, pos := pos, after := af, guard := none }).run Yba.prog w) := by
  have hu := Yba.underlying40
  obtain ⟨ρ, hρ⟩ : ∃ ρ, a.eval = ρ := ⟨_, rfl⟩
  rw [hρ] at hx ⊢
  rcases hi with ⟨rfl, rfl⟩ | ⟨rfl, rfl⟩ | ⟨rfl, rfl⟩ | ⟨rfl, rfl⟩ | ⟨rfl, rfl⟩ <;> simp [execOp, hx, go_sem, LUpon] <;> exact ⟨hS, hC⟩
theorem LUpon_load5 {x : Operand} {ad : Addr} {X : Int} (hC : C w) (hx : a.eval x = .pointer (some ad)) (hc : w.cell? ad = some (.int .u8 X)) (hS : S (.int .u8 X)) :
    LUpon Yba.prog C S ((execOp a.eval { dst := d, op := .load 5 x, type := ty, pos := pos, after := af, guard := none }).run Yba.prog w) := by
  have hu := Yba.underlying5
  obtain ⟨ρ, hρ⟩ : ∃ ρ, a.eval = ρ := ⟨_, rfl⟩
  rw [hρ] at hx ⊢
  simp [execOp, hx, hc, go_sem, LUpon]
  exact ⟨hS, hC⟩
theorem LUpon_load4 {x : Operand} {ad : Addr} {X : Bool} (hC : C w) (hx : a.eval x = .pointer (some ad)) (hc : w.cell? ad = some (.bool X)) (hS : S (.bool X)) :
    LUpon Yba.prog C S ((execOp a.eval { dst := d, op := .load 4 x, type := ty, pos := pos, after := af, guard := none }).run Yba.prog w) := by
  have hu := Yba.underlying4
  obtain ⟨ρ, hρ⟩ : ∃ ρ, a.eval = ρ := ⟨_, rfl⟩
  rw [hρ] at hx ⊢
  simp [execOp, hx, hc, go_sem, LUpon]
  exact ⟨hS, hC⟩
theorem LUpon_load9 {x : Operand} {ad : Addr} {X : ByteArray} (hC : C w) (hx : a.eval x = .pointer (some ad)) (hc : w.cell? ad = some (.string X)) (hS : S (.string X)) :
    LUpon Yba.prog C S ((execOp a.eval { dst := d, op := .load 9 x, type := ty, pos := pos, after := af, guard := none }).run Yba.prog w) := by
  have hu := Yba.underlying9
  obtain ⟨ρ, hρ⟩ : ∃ ρ, a.eval = ρ := ⟨_, rfl⟩
  rw [hρ] at hx ⊢
  simp [execOp, hx, hc, go_sem, LUpon]
  exact ⟨hS, hC⟩
theorem LUpon_rem5 {x : Operand} {X m Z : Int} (hm : m = 3 ∨ m = 4) (hC : C w) (hx : a.eval x = .int .u8 X) (hz : X.tmod m = Z) (hw : IntKind.u8.wrap Z = Z) (hS : S (.int .u8 Z)) :
    LUpon Yba.prog C S ((execOp a.eval { dst := d, op := .binOp .rem 5 x (.const (.int .u8 m)) 5, type := ty, pos := pos, after := af, guard := none }).run Yba.prog w) := by
  have hu := Yba.underlying5
  have hk : a.eval (.const (.int .u8 m)) = .int .u8 m := rfl
  obtain ⟨ρ, hρ⟩ : ∃ ρ, a.eval = ρ := ⟨_, rfl⟩
  rw [hρ] at hx hk ⊢
  rcases hm with rfl | rfl <;> simp [execOp, hx, hk, go_sem, LUpon, hz, hw] <;> exact ⟨hS, hC⟩
theorem LUpon_add5 {x : Operand} {X Z : Int} (hC : C w) (hx : a.eval x = .int .u8 X) (hz : IntKind.u8.wrap (X + 1) = Z) (hS : S (.int .u8 Z)) :
    LUpon Yba.prog C S ((execOp a.eval { dst := d, op := .binOp .add 5 x (.const (.int .u8 1)) 5, type := ty, pos := pos, after := af, guard := none }).run Yba.prog w) := by
  have hu := Yba.underlying5
  have hk : a.eval (.const (.int .u8 1)) = .int .u8 1 := rfl
  obtain ⟨ρ, hρ⟩ : ∃ ρ, a.eval = ρ := ⟨_, rfl⟩
  rw [hρ] at hx hk ⊢
  simp [execOp, hx, hk, go_sem, LUpon, hz]
  exact ⟨hS, hC⟩
theorem LUpon_conv52 {x : Operand} {X : Int} (hC : C w) (hx : a.eval x = .int .u8 X) (hz : IntKind.i64.wrap X = X) (hS : S (.int .i64 X)) :
    LUpon Yba.prog C S ((execOp a.eval { dst := d, op := .convert 5 2 x, type := ty, pos := pos, after := af, guard := none }).run Yba.prog w) := by
  have hu := Yba.underlying5
  have hu2 := Yba.underlying2
  obtain ⟨ρ, hρ⟩ : ∃ ρ, a.eval = ρ := ⟨_, rfl⟩
  rw [hρ] at hx ⊢
  simp [execOp, hx, go_sem, LUpon, hz]
  exact ⟨hS, hC⟩
theorem LUpon_build37 {x y : Operand} {X : Int} {Y : Bool} (hC : C w) (hx : a.eval x = .int .i64 X) (hy : a.eval y = .bool Y) (hS : S (.agg #[.int .i64 X, .bool Y])) :
    LUpon Yba.prog C S ((execOp a.eval { dst := d, op := .build 37 #[(0, x), (1, y)], type := ty, pos := pos, after := af, guard := none }).run Yba.prog w) := by
  have hu := Yba.underlying37
  obtain ⟨i, hi, h0, h1, h2⟩ := info_parts Yba.inf37
  obtain ⟨ρ, hρ⟩ : ∃ ρ, a.eval = ρ := ⟨_, rfl⟩
  rw [hρ] at hx hy ⊢
  simp [execOp, hx, hy, hi, h0, go_sem, LUpon]
  exact ⟨hS, hC⟩
theorem LUpon_store {t : TypeId} {x y : Operand} {b o : Nat} {cs : List Value} (hi : (Yba.prog.info? t).map (·.size) = some cs.length) (h1 : cs.all (·.oneCell') = true) (ht : w.there b o cs.length) (hx : a.eval x = .pointer (some ⟨b, o, none⟩)) (hy : a.eval y = .agg cs.toArray)
    (hC : C (w.setCells b o cs)) (hS : S undef) :
    LUpon Yba.prog C S ((execOp a.eval { dst := d, op := .store t x y, type := ty, pos := pos, after := af, guard := none }).run Yba.prog w) := by
  have hr := run_storeAt_mid (P := Yba.prog) w b o t cs.toArray (by simpa using ht) (by simpa using hi) (all_oneCell_toArray (List.all_eq_true.1 h1))
  have e : cs.toArray.toList = cs := by simp
  rw [e] at hr
  simp only [execOp, hx, hy, Sem.run_bind, hr, Result.andThen_ok, Sem.run_pure]
  exact ⟨hS, hC⟩
theorem LUpon_call14 {x : Operand} {X : Value} {t : TypeId} (hx : a.eval x = X) (h : Calls Yba.prog 14 #[X] w fun e w' => ∃ v, e = .returned v ∧ S v ∧ C w') :
    LUpon Yba.prog C S ((execOp a.eval { dst := d, op := .call { callee := .value (.func 14), args := #[x], argTypes := #[t] }, type := ty, pos := pos, after := af, guard := none }).run Yba.prog w) := by
  have hr : (execOp a.eval { dst := d, op := .call { callee := .value (.func 14), args := #[x], argTypes := #[t] }, type := ty, pos := pos, after := af, guard := none }).run Yba.prog w = .ok (.enter 14 #[X]) w := by
    have hfe : a.eval (.func 14) = .func (.func 14) #[] #[] := rfl
    obtain ⟨ρ, hρ⟩ : ∃ ρ, a.eval = ρ := ⟨_, rfl⟩
    rw [hρ] at hx hfe ⊢
    simp [execOp, hx, hfe, go_sem]
  rw [hr]
  exact h
end

/-! ### the calls as data -/
structure CallD where
  f : Int
  key : ByteArray
  vn : Int
  vv : Bool
  en : Int
  ev : Bool
  oc : Int
def procS : ByteArray := ⟨#[112]⟩
def keyS (k : Int) : ByteArray := if k = 0 then ⟨#[97]⟩ else if k = 1 then ⟨#[98]⟩ else ⟨#[]⟩
def callCells (c : CallD) : List Value := [.string procS, .int .u8 c.f, .string c.key, .int .i64 c.vn, .bool c.vv, .int .i64 c.en, .bool c.ev, .int .u8 c.oc, .int .i64 0, .int .i64 0, .int .i64 0, .int .i64 0]

theorem key_any (k : Nat) (w : World) : Calls Yba.prog 14 #[.int .u8 k] w fun e w' => e = .returned (.string (keyS ((k % 3 : Nat) : Int))) ∧ w' = w := by
  have h0 : ((k : Int).tmod 3) = ((k % 3 : Nat) : Int) := by rw [Int.tmod_eq_emod_of_nonneg (by omega)]; omega
  have hw : IntKind.u8.wrap ((k % 3 : Nat) : Int) = ((k % 3 : Nat) : Int) := by rw [IntKind.wrap_u8]; omega
  have h3 : k % 3 = 0 ∨ k % 3 = 1 ∨ k % 3 = 2 := by omega
  rcases h3 with h3 | h3 | h3 <;> rw [h3] at h0 hw ⊢
  · go_enter Yba.func14, Yba.ntmps14
    go_wp2
    go_ret
    exact ⟨rfl, rfl⟩
  · go_enter Yba.func14, Yba.ntmps14
    go_wp2
    go_ret
    exact ⟨rfl, rfl⟩
  · go_enter Yba.func14, Yba.ntmps14
    go_wp2
    go_ret
    exact ⟨rfl, rfl⟩
end Go.Proofs.Ybulkcixi
