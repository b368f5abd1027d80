/-
  PLAIN: floats of 64 bits as words, over Ieee alone. No Go text here.
-/
import Derived.Laws.FloatBits
namespace Go.Proofs.YbulkcivsDoor
open Ieee

/-- The weight of the sign bit, and the rung of infinity. -/
def SW : Nat := 9223372036854775808
def IR : Nat := 9218868437227405312
def BN : Nat := 4503599627370496

theorem sw_eq : double.signWeight = SW := by decide
theorem ir_eq : double.infRung = IR := by decide
theorem bn_eq : double.binade = BN := by decide
theorem lp_eq : double.leastPlace = -1074 := by decide
theorem fb_eq : double.fractionBits = 52 := rfl

/-- A NaN, by its rung. -/
def nanB (b : Nat) : Bool := decide (IR < b % SW)
/-- The class of a word: all NaNs are one. -/
def cl (b : Nat) : Option Nat := if nanB b then none else some b

theorem read_eq (b : Nat) : double.read b =
    (if b % SW < BN then .number (b / SW % 2 == 1) (b % SW) (-1074)
     else if b % SW < IR then .number (b / SW % 2 == 1) (BN + b % SW % BN) (-1074 + (b % SW / BN - 1 : Nat))
     else if b % SW = IR then .infinity (b / SW % 2 == 1)
     else .nan (b / SW % 2 == 1) (b % SW - IR)) := by
  unfold Format.read
  rw [sw_eq, ir_eq, bn_eq, lp_eq]

theorem read_nan {b : Nat} (h : nanB b = true) : double.read b = .nan (b / SW % 2 == 1) (b % SW - IR) := by
  have h' : IR < b % SW := by simpa [nanB] using h
  rw [read_eq, if_neg (by unfold BN IR at *; omega), if_neg (by omega), if_neg (by omega)]

theorem read_notnan {b : Nat} (h : nanB b = false) : (double.read b).isNaN = false := by
  have h' : ¬ IR < b % SW := by simpa [nanB] using h
  rw [read_eq]
  split
  · rfl
  · split
    · rfl
    · rw [if_pos (by omega)]; rfl

/-! ### what is written is no NaN -/
theorem word_mod (neg : Bool) (r : Nat) (h : r ≤ IR) : double.word neg r % SW = r := by
  unfold Format.word
  rw [sw_eq]
  unfold SW IR at *
  split <;> omega

theorem nearest_mod_le (neg : Bool) (m : Nat) (p : Int) : double.nearest neg m p % SW ≤ IR := by
  unfold Format.nearest
  dsimp only
  split
  · rw [word_mod _ _ (by omega)]; omega
  · rw [ir_eq, word_mod _ _ (Nat.min_le_right ..)]
    exact Nat.min_le_right ..

theorem nanB_le {b : Nat} (h : b % SW ≤ IR) : nanB b = false := by
  unfold nanB; simp; omega

theorem write_notnan (d : Datum) (h : d.isNaN = false) : nanB (double.write d) = false := by
  cases d with
  | number neg mag place => exact nanB_le (nearest_mod_le neg mag place)
  | infinity neg =>
    refine nanB_le ?_
    show double.word neg double.infRung % SW ≤ IR
    rw [ir_eq, word_mod _ _ (Nat.le_refl _)]
    exact Nat.le_refl _
  | nan neg f => cases h

theorem cl_some {b : Nat} (h : nanB b = false) : cl b = some b := by simp [cl, h]
theorem cl_none {b : Nat} (h : nanB b = true) : cl b = none := by simp [cl, h]
theorem cl_eq_some {b r : Nat} (h : cl b = some r) : r = b ∧ nanB b = false := by
  unfold cl at h
  split at h
  · cases h
  · rename_i hn
    cases h
    exact ⟨rfl, by simpa using hn⟩
theorem cl_eq_none {b : Nat} (h : cl b = none) : nanB b = true := by
  unfold cl at h
  split at h
  · assumption
  · cases h

/-! ### the operations on classes -/
def fadd : Option Nat → Option Nat → Option Nat | some x, some y => double.add x y | _, _ => none
def fsub : Option Nat → Option Nat → Option Nat | some x, some y => double.sub x y | _, _ => none
def fmul : Option Nat → Option Nat → Option Nat | some x, some y => double.mul x y | _, _ => none
def fdiv : Option Nat → Option Nat → Option Nat | some x, some y => double.div x y | _, _ => none
def fsqrt : Option Nat → Option Nat | some x => double.sqrt x | _ => none
def ford : Option Nat → Option Nat → Option Ordering | some x, some y => double.order x y | _, _ => none

theorem sum_nan_l (s : Bool) (f : Nat) (d : Datum) : (Datum.nan s f).sum d = none := by cases d <;> rfl
theorem sum_nan_r (s : Bool) (f : Nat) (d : Datum) : d.sum (Datum.nan s f) = none := by cases d <;> rfl
theorem product_nan_l (s : Bool) (f : Nat) (d : Datum) : (Datum.nan s f).product d = none := by cases d <;> rfl
theorem product_nan_r (s : Bool) (f : Nat) (d : Datum) : d.product (Datum.nan s f) = none := by cases d <;> rfl
theorem quotient_nan_l (k : Nat) (s : Bool) (f : Nat) (d : Datum) : (Datum.nan s f).quotient k d = none := by cases d <;> rfl
theorem quotient_nan_r (k : Nat) (s : Bool) (f : Nat) (d : Datum) : d.quotient k (Datum.nan s f) = none := by cases d <;> rfl
theorem order_nan_l (s : Bool) (f : Nat) (d : Datum) : (Datum.nan s f).order d = none := by cases d <;> rfl
theorem order_nan_r (s : Bool) (f : Nat) (d : Datum) : d.order (Datum.nan s f) = none := by cases d <;> rfl

theorem add_cl (x y : Nat) : double.add x y = fadd (cl x) (cl y) := by
  cases hx : nanB x
  · cases hy : nanB y
    · rw [cl_some hx, cl_some hy]; rfl
    · rw [cl_none hy]; unfold Format.add; rw [read_nan hy, sum_nan_r]; cases cl x <;> rfl
  · rw [cl_none hx]; unfold Format.add; rw [read_nan hx, sum_nan_l]; rfl
theorem sub_cl (x y : Nat) : double.sub x y = fsub (cl x) (cl y) := by
  cases hx : nanB x
  · cases hy : nanB y
    · rw [cl_some hx, cl_some hy]; rfl
    · rw [cl_none hy]; unfold Format.sub; rw [read_nan hy]; show Option.map _ (Datum.sum _ (Datum.nan _ _)) = _; rw [sum_nan_r]; cases cl x <;> rfl
  · rw [cl_none hx]; unfold Format.sub; rw [read_nan hx, sum_nan_l]; rfl
theorem mul_cl (x y : Nat) : double.mul x y = fmul (cl x) (cl y) := by
  cases hx : nanB x
  · cases hy : nanB y
    · rw [cl_some hx, cl_some hy]; rfl
    · rw [cl_none hy]; unfold Format.mul; rw [read_nan hy, product_nan_r]; cases cl x <;> rfl
  · rw [cl_none hx]; unfold Format.mul; rw [read_nan hx, product_nan_l]; rfl
theorem div_cl (x y : Nat) : double.div x y = fdiv (cl x) (cl y) := by
  cases hx : nanB x
  · cases hy : nanB y
    · rw [cl_some hx, cl_some hy]; rfl
    · rw [cl_none hy]; unfold Format.div; rw [read_nan hy, quotient_nan_r]; cases cl x <;> rfl
  · rw [cl_none hx]; unfold Format.div; rw [read_nan hx, quotient_nan_l]; rfl
theorem sqrt_cl (x : Nat) : double.sqrt x = fsqrt (cl x) := by
  cases hx : nanB x
  · rw [cl_some hx]; rfl
  · rw [cl_none hx]; unfold Format.sqrt; rw [read_nan hx]; rfl
theorem order_cl (x y : Nat) : double.order x y = ford (cl x) (cl y) := by
  cases hx : nanB x
  · cases hy : nanB y
    · rw [cl_some hx, cl_some hy]; rfl
    · rw [cl_none hy]; unfold Format.order; rw [read_nan hy, order_nan_r]; cases cl x <;> rfl
  · rw [cl_none hx]; unfold Format.order; rw [read_nan hx, order_nan_l]; rfl

theorem sum_notnan {a b d : Datum} (h : a.sum b = some d) : d.isNaN = false := by
  cases a <;> cases b <;> simp only [Datum.sum] at h <;> first | (cases h; done) | (cases h; rfl) | (split at h <;> first | (cases h; done) | (cases h; rfl))
theorem product_notnan {a b d : Datum} (h : a.product b = some d) : d.isNaN = false := by
  cases a <;> cases b <;> simp only [Datum.product] at h <;> first | (cases h; done) | (cases h; rfl) | (split at h <;> first | (cases h; done) | (cases h; rfl))
theorem quotient_notnan {k : Nat} {a b d : Datum} (h : a.quotient k b = some d) : d.isNaN = false := by
  cases a <;> cases b <;> simp only [Datum.quotient] at h <;> first | (cases h; done) | (cases h; rfl) | skip
  split at h
  · split at h <;> first | (cases h; done) | (cases h; rfl)
  · cases h; rfl
theorem root_notnan {k : Nat} {a d : Datum} (h : a.root k = some d) : d.isNaN = false := by
  cases a <;> simp only [Datum.root] at h
  · split at h
    · cases h; rfl
    · split at h
      · cases h
      · cases h; rfl
  · split at h <;> first | (cases h; done) | (cases h; rfl)
  · cases h

theorem map_write {o : Option Datum} {r : Nat} (hn : ∀ d, o = some d → d.isNaN = false) (h : o.map double.write = some r) : cl r = some r := by
  cases o with
  | none => cases h
  | some d => cases h; exact cl_some (write_notnan d (hn d rfl))

theorem add_some {x y r : Nat} (h : double.add x y = some r) : cl r = some r := map_write (fun _ => sum_notnan) h
theorem sub_some {x y r : Nat} (h : double.sub x y = some r) : cl r = some r := map_write (fun _ => sum_notnan) h
theorem mul_some {x y r : Nat} (h : double.mul x y = some r) : cl r = some r := map_write (fun _ => product_notnan) h
theorem div_some {x y r : Nat} (h : double.div x y = some r) : cl r = some r := map_write (fun _ => quotient_notnan) h
theorem sqrt_some {x r : Nat} (h : double.sqrt x = some r) : cl r = some r := map_write (fun _ => root_notnan) h
end Go.Proofs.YbulkcivsDoor
