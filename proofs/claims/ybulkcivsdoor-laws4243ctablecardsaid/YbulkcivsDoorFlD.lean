/-
  PLAIN: sharper bounds (no factor 2 is lost at a rounding); classes and signs.
-/
import Derived.Test.YbulkcivsDoorFlC
namespace Go.Proofs.YbulkcivsDoor
open Ieee

theorem cut_exact (neg : Bool) (k d : Nat) : Toward.even.cut neg (2 ^ (k + d)) d = 2 ^ k := by
  unfold Toward.cut
  dsimp only
  have hl : (2 ^ (k + d)).log2 = k + d := Nat.log2_two_pow
  rw [hl, Nat.min_eq_left (by omega), shl_eq, Nat.one_mul]
  have h1 : 2 ^ (k + d) / 2 ^ d = 2 ^ k := by rw [Nat.pow_add]; exact Nat.mul_div_cancel _ (Nat.two_pow_pos _)
  have h2 : 2 ^ (k + d) % 2 ^ d = 0 := by rw [Nat.pow_add]; exact Nat.mul_mod_left _ _
  rw [h1, h2]
  have hp := Nat.two_pow_pos d
  have c1 : decide (2 ^ d < 2 * 0) = false := decide_eq_false (by omega)
  have c2 : (2 ^ d == 2 * 0) = false := by simp
  rw [c1, c2]
  simp

theorem nearest_fin2 (neg : Bool) (m K T c : Nat) (h1c : 1 ≤ c) (hc : c ≤ 1022) (h : m * 2 ^ T ≤ 2 ^ (c + K)) : Fin (double.nearest neg m (-(K : Int) + (T : Int))) c := by
  by_cases h0 : m = 0
  · obtain ⟨d, rfl⟩ : ∃ d, c = d + 1 := ⟨c - 1, by omega⟩
    exact nearest_fin _ _ _ d (by omega) fun h => absurd h0 h
  have hl := log2_le_of h0 h
  by_cases he : m.log2 + T ≤ c + K - 1
  · obtain ⟨d, rfl⟩ : ∃ d, c = d + 1 := ⟨c - 1, by omega⟩
    exact nearest_fin _ _ _ d (by omega) fun _ => by omega
  · have heq : m.log2 + T = c + K := by omega
    have hm : m = 2 ^ m.log2 := by
      have g1 : 2 ^ m.log2 ≤ m := Nat.log2_self_le h0
      have g2 : m * 2 ^ T ≤ 2 ^ m.log2 * 2 ^ T := by rw [← Nat.pow_add, heq]; exact h
      have g3 := Nat.le_of_mul_le_mul_right g2 (Nat.two_pow_pos _)
      omega
    obtain ⟨L, hL⟩ : ∃ L, m.log2 = L := ⟨_, rfl⟩
    rw [hL] at heq hm
    unfold Fin Format.nearest
    dsimp only
    rw [if_neg h0, ir_eq, bn_eq, lp_eq, fb_eq, word_mod _ _ (Nat.min_le_right ..)]
    refine Nat.le_trans (Nat.min_le_left ..) ?_
    rw [hL]
    have hlast : max (-(K : Int) + (T : Int) + (L : Int) - ((52 : Nat) : Int)) (-1074) = (c : Int) - 52 := by omega
    rw [hlast]
    have e52 : BN = 2 ^ 52 := by decide
    have hkept : Toward.even.cut neg (m <<< (-(K : Int) + (T : Int) - ((c : Int) - 52)).toNat) ((c : Int) - 52 - (-(K : Int) + (T : Int))).toNat = 2 ^ 52 := by
      rw [shl_eq, hm, ← Nat.pow_add]
      rcases Nat.le_total 52 L with h5 | h5
      · have e1 : (-(K : Int) + (T : Int) - ((c : Int) - 52)).toNat = 0 := by omega
        have e2 : ((c : Int) - 52 - (-(K : Int) + (T : Int))).toNat = L - 52 := by omega
        rw [e1, e2, Nat.add_zero]
        have := cut_exact neg 52 (L - 52)
        rw [show 52 + (L - 52) = L by omega] at this
        exact this
      · have e1 : (-(K : Int) + (T : Int) - ((c : Int) - 52)).toNat = 52 - L := by omega
        have e2 : ((c : Int) - 52 - (-(K : Int) + (T : Int))).toNat = 0 := by omega
        rw [e1, e2, show L + (52 - L) = 52 by omega]
        exact cut_exact neg 52 0
    rw [hkept]
    have e3 : ((c : Int) - 52 - -1074).toNat = c + 1022 := by omega
    rw [e3, ← e52]
    have : (c + 1023) * BN = (c + 1022) * BN + BN := by rw [← Nat.succ_mul]
    omega

theorem mul_fin2 {x y a b : Nat} (hx : Fin x a) (hy : Fin y b) (h1 : 1 ≤ a + b) (h : a + b ≤ 1022) : ∃ r, double.mul x y = some r ∧ Fin r (a + b) := by
  obtain ⟨m, t, ex, bx⟩ := hx.read (by omega)
  obtain ⟨n, u, ey, byy⟩ := hy.read (by omega)
  unfold Format.mul
  rw [ex, ey]
  refine ⟨_, rfl, ?_⟩
  have e : (-1074 + (t : Int) + (-1074 + (u : Int))) = -((2148 : Nat) : Int) + ((t + u : Nat) : Int) := by omega
  show Fin (double.nearest _ (m * n) (-1074 + (t : Int) + (-1074 + (u : Int)))) _
  rw [e]
  refine nearest_fin2 _ _ _ _ _ h1 h ?_
  have h2 := Nat.mul_le_mul bx byy
  rw [← Nat.pow_add] at h2
  have e1 : m * 2 ^ t * (n * 2 ^ u) = m * n * 2 ^ (t + u) := by rw [Nat.pow_add, Nat.mul_mul_mul_comm]
  rw [e1] at h2
  have e2 : a + 1074 + (b + 1074) = a + b + 2148 := by omega
  rw [e2] at h2
  exact h2

theorem sum_fin_aux2 {s t : Bool} {m n tx ty a b : Nat} (hx : m * 2 ^ tx ≤ 2 ^ (a + 1074)) (hy : n * 2 ^ ty ≤ 2 ^ (b + 1074)) (h : max a b ≤ 1020) :
    ∃ d, (Datum.number s m (-1074 + (tx : Int))).sum (.number t n (-1074 + (ty : Int))) = some d ∧ Fin (double.write d) (max a b + 1) := by
  refine ⟨_, rfl, ?_⟩
  obtain ⟨base, hbase⟩ : ∃ base : Nat, base = min tx ty := ⟨_, rfl⟩
  have eb : min (-1074 + (tx : Int)) (-1074 + (ty : Int)) = -((1074 : Nat) : Int) + (base : Int) := by omega
  show Fin (double.nearest _ _ _) _
  rw [eb]
  have e1 : (-1074 + (tx : Int) - (-((1074 : Nat) : Int) + (base : Int))).toNat = tx - base := by omega
  have e2 : (-1074 + (ty : Int) - (-((1074 : Nat) : Int) + (base : Int))).toNat = ty - base := by omega
  rw [e1, e2]
  obtain ⟨T, hT⟩ : ∃ T : Int, T = signed s m (tx - base) + signed t n (ty - base) := ⟨_, rfl⟩
  rw [← hT]
  have hle : T.natAbs ≤ m * 2 ^ (tx - base) + n * 2 ^ (ty - base) := by
    rw [hT]
    refine Nat.le_trans (Int.natAbs_add_le _ _) ?_
    rw [signed_natAbs, signed_natAbs]
    exact Nat.le_refl _
  refine nearest_fin2 _ _ _ _ _ (by omega) (by omega) ?_
  refine Nat.le_trans (Nat.mul_le_mul_right _ hle) ?_
  rw [Nat.add_mul, Nat.mul_assoc, Nat.mul_assoc, ← Nat.pow_add, ← Nat.pow_add]
  rw [show tx - base + base = tx by omega, show ty - base + base = ty by omega]
  have g1 : 2 ^ (a + 1074) ≤ 2 ^ (max a b + 1074) := Nat.pow_le_pow_right (by omega) (by omega)
  have g2 : 2 ^ (b + 1074) ≤ 2 ^ (max a b + 1074) := Nat.pow_le_pow_right (by omega) (by omega)
  have g3 : 2 ^ (max a b + 1 + 1074) = 2 * 2 ^ (max a b + 1074) := by
    rw [show max a b + 1 + 1074 = (max a b + 1074) + 1 by omega, Nat.pow_succ, Nat.mul_comm]
  omega

theorem add_fin2 {x y a b : Nat} (hx : Fin x a) (hy : Fin y b) (h : max a b ≤ 1020) : ∃ r, double.add x y = some r ∧ Fin r (max a b + 1) := by
  obtain ⟨m, t, ex, bx⟩ := hx.read (by omega)
  obtain ⟨n, u, ey, byy⟩ := hy.read (by omega)
  obtain ⟨d, hd, hf⟩ := sum_fin_aux2 (s := x / SW % 2 == 1) (t := y / SW % 2 == 1) bx byy h
  unfold Format.add
  rw [ex, ey, hd]
  exact ⟨_, rfl, hf⟩
theorem sub_fin2 {x y a b : Nat} (hx : Fin x a) (hy : Fin y b) (h : max a b ≤ 1020) : ∃ r, double.sub x y = some r ∧ Fin r (max a b + 1) := by
  obtain ⟨m, t, ex, bx⟩ := hx.read (by omega)
  obtain ⟨n, u, ey, byy⟩ := hy.read (by omega)
  obtain ⟨d, hd, hf⟩ := sum_fin_aux2 (s := x / SW % 2 == 1) (t := !(y / SW % 2 == 1)) bx byy h
  unfold Format.sub
  rw [ex, ey]
  show ∃ r, Option.map double.write (Datum.sum _ (Datum.number (!_) n _)) = some r ∧ _
  rw [hd]
  exact ⟨_, rfl, hf⟩
theorem ofNat_fin2 (n k : Nat) (h1 : 1 ≤ k) (hk : k ≤ 1022) (h : n ≤ 2 ^ k) : Fin (double.nearest false n 0) k := by
  have := nearest_fin2 false n 0 0 k h1 hk (by simpa using h)
  simpa using this

/-- A finite number times pi/180 stays well below. -/
theorem mul_rad_fin {x : Nat} (hx : x % SW < IR) : ∃ r, double.mul x 4580687790476533049 = some r ∧ Fin r 1020 := by
  obtain ⟨m, t, ex, vx⟩ := read_val hx
  have er : double.read 4580687790476533049 = .number false 5030569068109113 (-58) := by decide
  unfold Format.mul
  rw [ex, er]
  refine ⟨_, rfl, ?_⟩
  show Fin (double.nearest _ (m * 5030569068109113) (-1074 + (t : Int) + (-58))) _
  refine nearest_fin _ _ _ 1019 (by omega) fun h0 => ?_
  obtain ⟨E, hE⟩ : ∃ E, IR / BN - 1 = E := ⟨_, rfl⟩
  have hE' : E = 2046 := by rw [← hE]; decide
  have hv : val (x % SW) ≤ 2 ^ (52 + E) := by
    have h1 := val_lt hx
    have h2 : val IR = 2 ^ (52 + E) := by
      unfold val
      rw [if_neg (by decide), hE]
      have e1 : BN + IR % BN = 2 ^ 52 := by decide
      rw [e1, Nat.pow_add]
    omega
  have h2 : m * 5030569068109113 * 2 ^ t ≤ 2 ^ (52 + E + 53) := by
    have e1 : m * 5030569068109113 * 2 ^ t = (m * 2 ^ t) * 5030569068109113 := by
      rw [Nat.mul_right_comm]
    rw [e1, vx]
    have h3 : val (x % SW) * 5030569068109113 ≤ 2 ^ (52 + E) * 2 ^ 53 := Nat.mul_le_mul hv (by decide)
    rw [← Nat.pow_add] at h3
    exact h3
  have := log2_le_of h0 h2
  omega

/-! ### classes and signs -/
def Cls (X : Option Nat) : Prop := ∀ x, X = some x → x < 2 ^ 64 ∧ nanB x = false

theorem cls_cl {x : Nat} (h : x < 2 ^ 64) : Cls (cl x) := fun y hy => by
  obtain ⟨rfl, hn⟩ := cl_eq_some hy
  exact ⟨h, hn⟩
theorem cls_fmul (X Y : Option Nat) : Cls (fmul X Y) := fun r hr => by
  cases X <;> cases Y <;> simp only [fmul] at hr <;> first | (cases hr; done) | exact ⟨double.mul_lt hr, (cl_eq_some (mul_some hr)).2⟩
theorem cls_fsub (X Y : Option Nat) : Cls (fsub X Y) := fun r hr => by
  cases X <;> cases Y <;> simp only [fsub] at hr <;> first | (cases hr; done) | exact ⟨double.sub_lt hr, (cl_eq_some (sub_some hr)).2⟩
theorem cls_fdiv (X Y : Option Nat) : Cls (fdiv X Y) := fun r hr => by
  cases X <;> cases Y <;> simp only [fdiv] at hr <;> first | (cases hr; done) | exact ⟨double.div_lt hr, (cl_eq_some (div_some hr)).2⟩
theorem fmul_comm (X Y : Option Nat) : fmul X Y = fmul Y X := by
  cases X <;> cases Y <;> simp only [fmul]
  exact mul_comm' _ _
theorem fmul_negl {X : Option Nat} (h : Cls X) (Y : Option Nat) : fmul (X.map negB) Y = (fmul X Y).map negB := by
  cases X with
  | none => rfl
  | some x => cases Y with
    | none => rfl
    | some y => exact mul_neg_l (h x rfl).1 y
theorem fmul_negr {Y : Option Nat} (h : Cls Y) (X : Option Nat) : fmul X (Y.map negB) = (fmul X Y).map negB := by
  rw [fmul_comm, fmul_negl h, fmul_comm]
theorem fdiv_negl {X : Option Nat} (h : Cls X) (Y : Option Nat) : fdiv (X.map negB) Y = (fdiv X Y).map negB := by
  cases X with
  | none => rfl
  | some x => cases Y with
    | none => rfl
    | some y => exact div_neg_l (h x rfl).1 y
theorem map_neg_neg (X : Option Nat) : (X.map negB).map negB = X := by
  cases X with
  | none => rfl
  | some x => simp [negB_negB]
theorem fsub_swap (X Y : Option Nat) : (fsub Y X = (fsub X Y).map negB) ∨ (fsub X Y = some 0 ∧ fsub Y X = some 0) := by
  cases X with
  | none => left; cases Y <;> rfl
  | some x => cases Y with
    | none => left; rfl
    | some y => exact sub_swap x y
/-- A square does not see the sign. -/
theorem fmul_neg_neg {X : Option Nat} (h : Cls X) : fmul (X.map negB) (X.map negB) = fmul X X := by
  rw [fmul_negl h, fmul_negr h, map_neg_neg]
theorem fmul_neg_twice {S : Option Nat} (T : Option Nat) (h : Cls S) : fmul (fmul T (S.map negB)) (S.map negB) = fmul (fmul T S) S := by
  rw [fmul_negr h T, fmul_negl (cls_fmul T S), fmul_negr h, map_neg_neg]
end Go.Proofs.YbulkcivsDoor
