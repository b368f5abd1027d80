import Derived.Test.YbulkcivsDoorWB
namespace Go.Proofs.YbulkcivsDoor
open Go.RowKit

/-- A float result: SOME word of this class; the world has at most drawn. -/
def FlRes (w : World) (F : Option Nat) (e : Ending) (w' : World) : Prop := ∃ r n, e = .returned (.float .f64 r) ∧ cl r = F ∧ r < 2 ^ 64 ∧ w' = w.drewN n

theorem order_none {x y : Nat} (h : nanB x = true) : Ieee.double.order x y = none := by rw [order_cl, cl_none h]; rfl

set_option maxHeartbeats 400000 in
theorem isNaN_any (x : Nat) (w : World) : Calls Ybad.prog 10 #[.float .f64 x] w fun e w' => e = .returned (.bool (nanB x)) ∧ w' = w := by
  have h : (FloatKind.f64.format.order x x != some .eq) = nanB x := by
    show (Ieee.double.order x x != some .eq) = nanB x
    cases hx : nanB x
    · rw [order_self hx]; rfl
    · rw [order_none hx]; rfl
  go_enter Ybad.func10, Ybad.ntmps10
  go_wp2
  go_ret
  exact ⟨rfl, rfl⟩

theorem andNot_sign (x : Nat) (h : x < 2 ^ 64) : (bits .andNot .u64 (x : Int) 9223372036854775808).toNat = x % SW := by
  have := u64_andNot_nat x 9223372036854775808 (by omega) (by omega)
  rw [show ((9223372036854775808 : Nat) : Int) = 9223372036854775808 from rfl] at this
  rw [this, Int.toNat_natCast]
  have e : (18446744073709551615 - 9223372036854775808 : Nat) = 2 ^ 63 - 1 := by decide
  rw [e, Nat.and_two_pow_sub_one_eq_mod, sw_pow]

set_option maxHeartbeats 400000 in
/-- math.Abs strikes the sign. -/
theorem abs_any (x : Nat) (hx : x < 2 ^ 64) (w : World) : Calls Ybad.prog 17 #[.float .f64 x] w fun e w' => e = .returned (.float .f64 (x % SW)) ∧ w' = w := by
  have h1 := call_bits
  have h2 := call_frombits
  have h3 := andNot_sign x hx
  go_enter Ybad.func17, Ybad.ntmps17
  go_wp2
  go_ret
  exact ⟨rfl, rfl⟩

/-- math.IsInf(x, 0) of a word that is no NaN. -/
def infB (x : Nat) : Bool := decide (x % SW = IR)
theorem order_max {x : Nat} (hx : nanB x = false) : (FloatKind.f64.format.order (x % SW) 9218868437227405311 == some .gt) = infB x := by
  show (Ieee.double.order (x % SW) 9218868437227405311 == some .gt) = infB x
  have h' : ¬ IR < x % SW := by simpa [nanB] using hx
  unfold infB
  by_cases hi : x % SW = IR
  · rw [hi, decide_eq_true rfl]
    have : Ieee.double.order IR 9218868437227405311 = some .gt := by decide
    rw [this]; rfl
  · rw [order_low (by omega) (by decide), decide_eq_false hi]
    rcases Nat.lt_or_ge (x % SW) 9218868437227405311 with h | h
    · rw [ncmp_lt h]; rfl
    · have : x % SW = 9218868437227405311 := by unfold IR at *; omega
      rw [this, ncmp_eq]; rfl

set_option maxHeartbeats 400000 in
theorem isInf_any (x : Nat) (hx : x < 2 ^ 64) (hn : nanB x = false) (w : World) : Calls Ybad.prog 11 #[.float .f64 x, .int .i64 0] w fun e w' => e = .returned (.bool (infB x)) ∧ w' = w := by
  have h := order_max hn
  go_enter Ybad.func11, Ybad.ntmps11
  go_wp2_with (go_at_call 17; refine (abs_any _ hx _).mono ?_; rintro e w' ⟨rfl, rfl⟩)
  go_ret
  exact ⟨rfl, rfl⟩

set_option maxHeartbeats 400000 in
theorem nan_any (w : World) : Calls Ybad.prog 27 #[] w fun e w' => e = .returned (.float .f64 9221120237041090561) ∧ w' = w := by
  have h2 := call_frombits
  go_enter Ybad.func27, Ybad.ntmps27
  go_wp2
  go_ret
  exact ⟨rfl, rfl⟩

/-- 'a == b || (a != a && b != b)' on two words of one class. -/
theorem eq_same (x y : Nat) (h : cl x = cl y) (w : World) : Calls Ybad.prog 8 #[.float .f64 x, .float .f64 y] w fun e w' => e = .returned (.bool true) ∧ w' = w := by
  cases hx : nanB x
  · have hy : y = x := by rw [cl_some hx] at h; exact ((cl_eq_some h.symm).1).symm
    subst hy
    have h1 : FloatKind.f64.format.order y y = some .eq := order_self hx
    go_enter Ybad.func8, Ybad.ntmps8
    go_wp2
    go_ret
    exact ⟨rfl, rfl⟩
  · have hy : nanB y = true := by rw [cl_none hx] at h; exact cl_eq_none h.symm
    have h1 : FloatKind.f64.format.order x y = none := order_none hx
    have h2 : FloatKind.f64.format.order x x = none := order_none hx
    have h3 : FloatKind.f64.format.order y y = none := order_none hy
    go_enter Ybad.func8, Ybad.ntmps8
    go_wp2
    go_ret
    exact ⟨rfl, rfl⟩

set_option maxHeartbeats 400000 in
theorem sqrt_any (x : Nat) (w : World) : Calls Ybad.prog 16 #[.float .f64 x] w fun e w' => FlRes w (fsqrt (cl x)) e w' := by
  obtain ⟨r, n, h1, h2, h3⟩ := run_sqrt x w
  have H2 : Hid (cl r = fsqrt (cl x)) := h2
  clear h2
  go_enter Ybad.func16, Ybad.ntmps16
  go_wp2
  go_ret
  exact ⟨r, n, rfl, H2.out, h3, rfl⟩

def xaH (z : Option Nat) : Option Nat :=
  fdiv (fmul z (fadd (fmul (fadd (fmul (fadd (fmul (fadd (fmul (cl 13829429103926125972) z) (cl 13848613196940411002)) z) (cl 13858350711815275123)) z) (cl 13861719834326579749)) z) (cl 13857635882265799822)))
    (fadd (fmul (fadd (fmul (fadd (fmul (fadd (fmul (fadd z (cl 4627690253511319612)) z) (cl 4640010388282866213)) z) (cl 4646322940342877755)) z) (cl 4647246694406179306)) z) (cl 4641049159275471596))
/-- math.xatan on classes. -/
def xatanF (x : Option Nat) : Option Nat := fadd (fmul x (xaH (fmul x x))) x

set_option maxHeartbeats 1000000 in
theorem xatan_any (x : Nat) (w : World) : Calls Ybad.prog 33 #[.float .f64 x] w fun e w' => FlRes w (xatanF (cl x)) e w' := by
  go_enter Ybad.func33, Ybad.ntmps33
  go_wp2_with (rw [fop_guard]; first | (refine law_fadd (by rfl) (by rfl) ?_; intro r n hr lr) | (refine law_fmul (by rfl) (by rfl) ?_; intro r n hr lr) | (refine law_fquo (by rfl) (by rfl) ?_; intro r n hr lr))
  go_ret
  refine ⟨r, _, rfl, ?_, lr, rfl⟩
  unfold Hid at *
  simp only [*, xatanF, xaH]

/-- math.satan on classes. -/
def satanF (x : Option Nat) : Option Nat :=
  if (ford x (cl 4604119971053405471) == some .lt || ford x (cl 4604119971053405471) == some .eq) then xatanF x
  else if (ford x (cl 4612618744449965542) == some .gt) then fadd (fsub (cl 4609753056924675352) (xatanF (fdiv (cl 4607182418800017408) x))) (cl 4364452196894661639)
  else fadd (fadd (cl 4605249457297304856) (xatanF (fdiv (fsub x (cl 4607182418800017408)) (fadd x (cl 4607182418800017408))))) (cl 4359948597267291143)

set_option maxHeartbeats 1000000 in
theorem satan_any (x : Nat) (w : World) : Calls Ybad.prog 29 #[.float .f64 x] w fun e w' => FlRes w (satanF (cl x)) e w' := by
  have o1 : FloatKind.f64.format.order x 4604119971053405471 = ford (cl x) (cl 4604119971053405471) := order_cl _ _
  have o2 : FloatKind.f64.format.order x 4612618744449965542 = ford (cl x) (cl 4612618744449965542) := order_cl _ _
  unfold satanF
  cases h1 : (ford (cl x) (cl 4604119971053405471) == some .lt || ford (cl x) (cl 4604119971053405471) == some .eq)
  · cases h2 : (ford (cl x) (cl 4612618744449965542) == some .gt)
    · go_enter Ybad.func29, Ybad.ntmps29
      go_wp2_with (first | (rw [fop_guard]; first | (refine law_fadd (by rfl) (by rfl) ?_; intro r n hr lr) | (refine law_fsub (by rfl) (by rfl) ?_; intro r n hr lr) | (refine law_fquo (by rfl) (by rfl) ?_; intro r n hr lr)) | (go_at_call 33; refine (xatan_any _ _).mono ?_; rintro e w' ⟨r, n, rfl, hr, lr, rfl⟩; have hr' : Hid (_ = _) := hr; clear hr))
      go_ret
      refine ⟨r, _, rfl, ?_, lr, rfl⟩
      unfold Hid at *
      simp [*]
    · go_enter Ybad.func29, Ybad.ntmps29
      go_wp2_with (first | (rw [fop_guard]; first | (refine law_fadd (by rfl) (by rfl) ?_; intro r n hr lr) | (refine law_fsub (by rfl) (by rfl) ?_; intro r n hr lr) | (refine law_fquo (by rfl) (by rfl) ?_; intro r n hr lr)) | (go_at_call 33; refine (xatan_any _ _).mono ?_; rintro e w' ⟨r, n, rfl, hr, lr, rfl⟩; have hr' : Hid (_ = _) := hr; clear hr))
      go_ret
      refine ⟨r, _, rfl, ?_, lr, rfl⟩
      unfold Hid at *
      simp [*]
  · go_enter Ybad.func29, Ybad.ntmps29
    go_wp2_with (go_at_call 33; refine (xatan_any _ _).mono ?_; rintro e w' ⟨r, n, rfl, hr, lr, rfl⟩; have hr' : Hid (_ = _) := hr; clear hr)
    go_ret
    refine ⟨r, _, rfl, ?_, lr, rfl⟩
    unfold Hid at *
    simp [*]

/-- math.asin on classes. -/
def asinF (x : Option Nat) : Option Nat :=
  if (ford x (cl 0) == some .eq) then x
  else
    let neg := (ford x (cl 0) == some .lt)
    let x1 := if neg then x.map negB else x
    if (ford x1 (cl 4607182418800017408) == some .gt) then none
    else
      let t := fsqrt (fsub (cl 4607182418800017408) (fmul x1 x1))
      let t1 := if (ford x1 (cl 4604480259023595110) == some .gt) then fsub (cl 4609753056924675352) (satanF (fdiv t x1)) else satanF (fdiv x1 t)
      if neg then t1.map negB else t1
end Go.Proofs.YbulkcivsDoor
