/-
  PLAIN: how large: bounds by rungs.
-/
import Derived.Test.YbulkcivsDoorFlA
namespace Go.Proofs.YbulkcivsDoor
open Ieee

/-- |b| ≤ 2^k, by its rung. -/
def Fin (b k : Nat) : Prop := b % SW ≤ (k + 1023) * BN

theorem Fin.mono {b k l : Nat} (h : Fin b k) (hl : k ≤ l) : Fin b l := by
  unfold Fin at *
  exact Nat.le_trans h (Nat.mul_le_mul_right _ (by omega))

theorem Fin.lt_IR {b k : Nat} (h : Fin b k) (hk : k ≤ 1023) : b % SW < IR := by
  unfold Fin at h
  have : (k + 1023) * BN ≤ 2046 * BN := Nat.mul_le_mul_right _ (by omega)
  unfold BN IR at *; omega

theorem Fin.notnan {b k : Nat} (h : Fin b k) (hk : k ≤ 1023) : nanB b = false := nanB_le (Nat.le_of_lt (h.lt_IR hk))

/-- What a finite word reads as; 'm * 2^t ≤ 2^(k + 1074)' in units of 2^-1074. -/
theorem Fin.read {b k : Nat} (h : Fin b k) (hk : k ≤ 1023) : ∃ m t : Nat, double.read b = .number (b / SW % 2 == 1) m (-1074 + (t : Int)) ∧ m * 2 ^ t ≤ 2 ^ (k + 1074) := by
  have h1 := h.lt_IR hk
  rw [read_eq]
  by_cases hb : b % SW < BN
  · rw [if_pos hb]
    refine ⟨b % SW, 0, by simp, ?_⟩
    have : BN ≤ 2 ^ (k + 1074) := by
      have : (2 : Nat) ^ 52 ≤ 2 ^ (k + 1074) := Nat.pow_le_pow_right (by omega) (by omega)
      unfold BN; omega
    simp; omega
  · rw [if_neg hb, if_pos h1]
    refine ⟨BN + b % SW % BN, b % SW / BN - 1, rfl, ?_⟩
    have hq : 1 ≤ b % SW / BN := (Nat.one_le_div_iff (by unfold BN; omega)).2 (by omega)
    have hr : b % SW % BN < BN := Nat.mod_lt _ (by unfold BN; omega)
    unfold Fin at h
    have hdm : b % SW = BN * (b % SW / BN) + b % SW % BN := (Nat.div_add_mod _ _).symm
    have e52 : BN = 2 ^ 52 := by decide
    rcases Nat.lt_or_ge (b % SW / BN) (k + 1023) with hlt | hge
    · have h3 : (BN + b % SW % BN) * 2 ^ (b % SW / BN - 1) ≤ 2 ^ 53 * 2 ^ (b % SW / BN - 1) := Nat.mul_le_mul_right _ (by omega)
      have h4 : 2 ^ 53 * 2 ^ (b % SW / BN - 1) = 2 ^ (53 + (b % SW / BN - 1)) := (Nat.pow_add ..).symm
      have h5 : 2 ^ (53 + (b % SW / BN - 1)) ≤ 2 ^ (k + 1074) := Nat.pow_le_pow_right (by omega) (by omega)
      omega
    · have hle : BN * (b % SW / BN) ≤ BN * (k + 1023) := by rw [Nat.mul_comm BN (k + 1023)]; omega
      have heq : b % SW / BN = k + 1023 := by
        have := Nat.le_of_mul_le_mul_left hle (by unfold BN; omega)
        omega
      have hz : b % SW % BN = 0 := by
        rw [heq, Nat.mul_comm BN (k + 1023)] at hdm; omega
      rw [hz, heq, e52, Nat.add_zero, ← Nat.pow_add]
      exact Nat.pow_le_pow_right (by omega) (by omega)

theorem shl_eq (a b : Nat) : a <<< b = a * 2 ^ b := Nat.shiftLeft_eq a b

/-- Rounding a number below B units gives at most B units. -/
theorem cut_le (neg : Bool) (n drop B : Nat) (h : n < B * 2 ^ drop) : Toward.even.cut neg n drop ≤ B := by
  unfold Toward.cut
  dsimp only
  have hone : ∀ b : Bool, b.toNat ≤ 1 := fun b => by cases b <;> decide
  rcases Nat.le_total drop (n.log2 + 2) with hd | hd
  · rw [Nat.min_eq_left hd, shl_eq, Nat.one_mul]
    have hlt : n / 2 ^ drop < B := (Nat.div_lt_iff_lt_mul (Nat.two_pow_pos _)).2 h
    have := hone (decide (2 ^ drop < 2 * (n % 2 ^ drop)) || (2 ^ drop == 2 * (n % 2 ^ drop) && n / 2 ^ drop % 2 == 1))
    omega
  · rw [Nat.min_eq_right hd, shl_eq, Nat.one_mul]
    by_cases h0 : n = 0
    · subst h0
      simp
    · have hn : n < 2 ^ (n.log2 + 1) := Nat.lt_log2_self
      have e2 : 2 ^ (n.log2 + 2) = 2 * 2 ^ (n.log2 + 1) := by rw [Nat.pow_succ 2 (n.log2 + 1), Nat.mul_comm]
      have hdiv : n / 2 ^ (n.log2 + 2) = 0 := Nat.div_eq_of_lt (by omega)
      have hmod : n % 2 ^ (n.log2 + 2) = n := Nat.mod_eq_of_lt (by omega)
      rw [hdiv, hmod]
      have c1 : decide (2 ^ (n.log2 + 2) < 2 * n) = false := decide_eq_false (by omega)
      have c2 : (2 ^ (n.log2 + 2) == 2 * n) = false := by simp; omega
      rw [c1, c2]
      simp

theorem nearest_fin (neg : Bool) (m : Nat) (p : Int) (c : Nat) (hc : c ≤ 1021) (h : m ≠ 0 → p + (m.log2 : Int) ≤ c) : Fin (double.nearest neg m p) (c + 1) := by
  unfold Fin Format.nearest
  dsimp only
  by_cases h0 : m = 0
  · rw [if_pos h0, word_mod _ _ (by omega)]; omega
  rw [if_neg h0, ir_eq, bn_eq, lp_eq, fb_eq, word_mod _ _ (Nat.min_le_right ..)]
  refine Nat.le_trans (Nat.min_le_left ..) ?_
  have he := h h0
  have hm : m < 2 ^ (m.log2 + 1) := Nat.lt_log2_self
  have e52 : BN = 2 ^ 52 := by decide
  -- the kept digits
  obtain ⟨last, hlast⟩ : ∃ last : Int, last = max (p + (m.log2 : Int) - ((52 : Nat) : Int)) (-1074) := ⟨_, rfl⟩
  rw [← hlast]
  have key : ∀ B : Nat, (p + (m.log2 : Int) + 1 ≤ last + B) → Toward.even.cut neg (m <<< (p - last).toNat) (last - p).toNat ≤ 2 ^ B := by
    intro B hB
    refine cut_le neg _ _ _ ?_
    rw [shl_eq, ← Nat.pow_add]
    refine Nat.lt_of_lt_of_le (Nat.mul_lt_mul_of_pos_right hm (Nat.two_pow_pos _)) ?_
    rw [← Nat.pow_add]
    exact Nat.pow_le_pow_right (by omega) (by omega)
  rcases Int.le_total (-1074) (p + (m.log2 : Int) - 52) with hn | hs
  · have hl : last = p + (m.log2 : Int) - 52 := by omega
    have k1 := key 53 (by omega)
    have h2 : (last - -1074).toNat ≤ c + 1022 := by omega
    have h3 : (last - -1074).toNat * BN ≤ (c + 1022) * BN := Nat.mul_le_mul_right _ h2
    have e53 : (2 : Nat) ^ 53 = 2 * BN := by decide
    have e4 : (c + 1 + 1023) * BN = (c + 1022) * BN + 2 * BN := by rw [← Nat.add_mul]
    omega
  · have hl : last = -1074 := by omega
    have k1 := key 53 (by omega)
    have h2 : (last - -1074).toNat = 0 := by omega
    have e53 : (2 : Nat) ^ 53 = 2 * BN := by decide
    have e4 : 2 * BN ≤ (c + 1 + 1023) * BN := Nat.mul_le_mul_right _ (by omega)
    rw [h2]
    omega

theorem log2_le_of {m t k : Nat} (h0 : m ≠ 0) (h : m * 2 ^ t ≤ 2 ^ k) : m.log2 + t ≤ k := by
  have h1 : 2 ^ m.log2 ≤ m := Nat.log2_self_le h0
  have h2 : 2 ^ (m.log2 + t) ≤ 2 ^ k := by
    rw [Nat.pow_add]; exact Nat.le_trans (Nat.mul_le_mul_right _ h1) h
  exact (Nat.pow_le_pow_iff_right (by omega)).1 h2

/-- A product of bounded numbers. -/
theorem mul_fin {x y a b : Nat} (hx : Fin x a) (hy : Fin y b) (h : a + b ≤ 1021) : ∃ r, double.mul x y = some r ∧ Fin r (a + b + 1) := by
  obtain ⟨m, t, ex, bx⟩ := hx.read (by omega)
  obtain ⟨n, u, ey, byy⟩ := hy.read (by omega)
  unfold Format.mul
  rw [ex, ey]
  refine ⟨_, rfl, nearest_fin _ _ _ (a + b) (by omega) fun h0 => ?_⟩
  have h1 : (m * n) * 2 ^ (t + u) ≤ 2 ^ (a + b + 2148) := by
    have h2 := Nat.mul_le_mul bx byy
    rw [← Nat.pow_add] at h2
    have e1 : m * 2 ^ t * (n * 2 ^ u) = m * n * 2 ^ (t + u) := by
      rw [Nat.pow_add, Nat.mul_mul_mul_comm]
    rw [e1] at h2
    have e2 : a + 1074 + (b + 1074) = a + b + 2148 := by omega
    rw [e2] at h2
    exact h2
  have := log2_le_of h0 h1
  omega

theorem signed_natAbs (s : Bool) (m up : Nat) : (signed s m up).natAbs = m * 2 ^ up := by
  unfold signed
  rw [shl_eq]
  split
  · rw [Int.natAbs_neg]; rfl
  · rfl

theorem sum_fin_aux {s t : Bool} {m n tx ty a b : Nat} (hx : m * 2 ^ tx ≤ 2 ^ (a + 1074)) (hy : n * 2 ^ ty ≤ 2 ^ (b + 1074)) (h : max a b ≤ 1020) :
    ∃ d, (Datum.number s m (-1074 + (tx : Int))).sum (.number t n (-1074 + (ty : Int))) = some d ∧ Fin (double.write d) (max a b + 2) := by
  refine ⟨_, rfl, nearest_fin _ _ _ (max a b + 1) (by omega) fun h0 => ?_⟩
  obtain ⟨base, hbase⟩ : ∃ base : Nat, base = min tx ty := ⟨_, rfl⟩
  have eb : min (-1074 + (tx : Int)) (-1074 + (ty : Int)) = -1074 + (base : Int) := by omega
  rw [eb] at h0 ⊢
  have e1 : (-1074 + (tx : Int) - (-1074 + (base : Int))).toNat = tx - base := by omega
  have e2 : (-1074 + (ty : Int) - (-1074 + (base : Int))).toNat = ty - base := by omega
  rw [e1, e2] at h0 ⊢
  obtain ⟨T, hT⟩ : ∃ T : Int, T = signed s m (tx - base) + signed t n (ty - base) := ⟨_, rfl⟩
  rw [← hT] at h0 ⊢
  have hle : T.natAbs ≤ m * 2 ^ (tx - base) + n * 2 ^ (ty - base) := by
    rw [hT]
    refine Nat.le_trans (Int.natAbs_add_le _ _) ?_
    rw [signed_natAbs, signed_natAbs]
    exact Nat.le_refl _
  have hsc : T.natAbs * 2 ^ base ≤ 2 ^ (max a b + 1 + 1074) := by
    refine Nat.le_trans (Nat.mul_le_mul_right _ hle) ?_
    rw [Nat.add_mul, Nat.mul_assoc, Nat.mul_assoc, ← Nat.pow_add, ← Nat.pow_add]
    rw [show tx - base + base = tx by omega, show ty - base + base = ty by omega]
    have g1 : 2 ^ (a + 1074) ≤ 2 ^ (max a b + 1074) := Nat.pow_le_pow_right (by omega) (by omega)
    have g2 : 2 ^ (b + 1074) ≤ 2 ^ (max a b + 1074) := Nat.pow_le_pow_right (by omega) (by omega)
    have g3 : 2 ^ (max a b + 1 + 1074) = 2 * 2 ^ (max a b + 1074) := by
      rw [show max a b + 1 + 1074 = (max a b + 1074) + 1 by omega, Nat.pow_succ, Nat.mul_comm]
    omega
  have := log2_le_of h0 hsc
  omega

theorem add_fin {x y a b : Nat} (hx : Fin x a) (hy : Fin y b) (h : max a b ≤ 1020) : ∃ r, double.add x y = some r ∧ Fin r (max a b + 2) := by
  obtain ⟨m, t, ex, bx⟩ := hx.read (by omega)
  obtain ⟨n, u, ey, byy⟩ := hy.read (by omega)
  obtain ⟨d, hd, hf⟩ := sum_fin_aux (s := x / SW % 2 == 1) (t := y / SW % 2 == 1) bx byy h
  unfold Format.add
  rw [ex, ey, hd]
  exact ⟨_, rfl, hf⟩

theorem sub_fin {x y a b : Nat} (hx : Fin x a) (hy : Fin y b) (h : max a b ≤ 1020) : ∃ r, double.sub x y = some r ∧ Fin r (max a b + 2) := by
  obtain ⟨m, t, ex, bx⟩ := hx.read (by omega)
  obtain ⟨n, u, ey, byy⟩ := hy.read (by omega)
  obtain ⟨d, hd, hf⟩ := sum_fin_aux (s := x / SW % 2 == 1) (t := !(y / SW % 2 == 1)) bx byy h
  unfold Format.sub
  rw [ex, ey]
  show ∃ r, Option.map double.write (Datum.sum _ (Datum.number (!_) n _)) = some r ∧ _
  rw [hd]
  exact ⟨_, rfl, hf⟩
end Go.Proofs.YbulkcivsDoor
