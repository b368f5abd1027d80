/-
  PLAIN: signs, order, whole numbers.
-/
import Derived.Test.YbulkcivsDoorFlB
namespace Go.Proofs.YbulkcivsDoor
open Ieee

/-- The word with its sign turned. -/
def negB (x : Nat) : Nat := x ^^^ 2 ^ (11 + 52)

theorem xor_low {x : Nat} (h : x < 2 ^ 63) : x ^^^ 2 ^ 63 = x + 2 ^ 63 := by
  apply Nat.eq_of_testBit_eq
  intro i
  rw [Nat.testBit_xor, Nat.testBit_two_pow, Nat.add_comm x]
  rcases Nat.lt_trichotomy i 63 with hi | hi | hi
  · rw [Nat.testBit_two_pow_add_gt hi, decide_eq_false (by omega)]; simp
  · subst hi; rw [Nat.testBit_two_pow_add_eq, decide_eq_true rfl]; simp
  · have h1 : x.testBit i = false := Nat.testBit_lt_two_pow (Nat.lt_of_lt_of_le h (Nat.pow_le_pow_right (by omega) (by omega)))
    have h2 : (2 ^ 63 + x).testBit i = false := Nat.testBit_lt_two_pow (Nat.lt_of_lt_of_le (show 2 ^ 63 + x < 2 ^ 64 by omega) (Nat.pow_le_pow_right (by omega) (by omega)))
    rw [h1, h2, decide_eq_false (by omega)]; rfl

theorem sw_pow : SW = 2 ^ 63 := by decide
theorem negB_low {x : Nat} (h : x < SW) : negB x = x + SW := by
  unfold negB; rw [sw_pow] at *; exact xor_low h
theorem negB_high {x : Nat} (h : SW ≤ x) (h2 : x < 2 ^ 64) : negB x = x - SW := by
  have h3 : x - SW < SW := by rw [sw_pow] at *; omega
  have h4 := negB_low h3
  rw [Nat.sub_add_cancel h] at h4
  have h5 : negB (negB (x - SW)) = x - SW := by
    unfold negB; rw [Nat.xor_assoc, Nat.xor_self, Nat.xor_zero]
  rw [h4] at h5
  exact h5
theorem negB_negB (x : Nat) : negB (negB x) = x := by
  unfold negB; rw [Nat.xor_assoc, Nat.xor_self, Nat.xor_zero]
theorem negB_lt {x : Nat} (h : x < 2 ^ 64) : negB x < 2 ^ 64 := by
  rcases Nat.lt_or_ge x SW with h1 | h1
  · rw [negB_low h1]; unfold SW at *; omega
  · rw [negB_high h1 h]; omega
theorem negB_mod {x : Nat} (h : x < 2 ^ 64) : negB x % SW = x % SW := by
  rcases Nat.lt_or_ge x SW with h1 | h1
  · rw [negB_low h1]; simp
  · rw [negB_high h1 h]
    unfold SW at *; omega
theorem negB_sign {x : Nat} (h : x < 2 ^ 64) : (negB x / SW % 2 == 1) = !(x / SW % 2 == 1) := by
  rcases Nat.lt_or_ge x SW with h1 | h1
  · rw [negB_low h1]
    have e1 : x / SW = 0 := Nat.div_eq_of_lt h1
    have e2 : (x + SW) / SW = 1 := by rw [Nat.add_div_right _ (by decide), e1]
    rw [e1, e2]; rfl
  · rw [negB_high h1 h]
    have e1 : x / SW = 1 := by unfold SW at *; omega
    have e2 : (x - SW) / SW = 0 := by unfold SW at *; omega
    rw [e1, e2]; rfl
theorem negB_nan {x : Nat} (h : x < 2 ^ 64) : nanB (negB x) = nanB x := by unfold nanB; rw [negB_mod h]
theorem Fin.negB {x k : Nat} (h : x < 2 ^ 64) (hf : Fin x k) : Fin (negB x) k := by unfold Fin at *; rw [negB_mod h]; exact hf
theorem read_negB {x : Nat} (h : x < 2 ^ 64) : double.read (negB x) = (double.read x).opposite := by
  rw [read_eq, read_eq, negB_mod h, negB_sign h]
  split
  · rfl
  · split
    · rfl
    · split <;> rfl

theorem word_negB (s : Bool) (r : Nat) (h : r < SW) : double.word (!s) r = negB (double.word s r) := by
  unfold Format.word
  rw [sw_eq]
  cases s
  · simp only [Bool.not_false, if_true, Bool.false_eq_true, if_false]
    rw [negB_low h]; omega
  · simp only [Bool.not_true, if_true, Bool.false_eq_true, if_false]
    rw [negB_high (by omega) (by unfold SW at *; omega)]; omega
theorem nearest_negB (s : Bool) (m : Nat) (p : Int) : double.nearest (!s) m p = negB (double.nearest s m p) := by
  unfold Format.nearest
  dsimp only
  have hc : ∀ n d, Toward.even.cut (!s) n d = Toward.even.cut s n d := fun n d => rfl
  split
  · exact word_negB s 0 (by decide)
  · rw [hc]
    exact word_negB s _ (Nat.lt_of_le_of_lt (Nat.min_le_right ..) (by rw [ir_eq]; decide))
theorem write_negB (d : Datum) (h : d.isNaN = false) : double.write d.opposite = negB (double.write d) := by
  cases d with
  | number s m p => exact nearest_negB s m p
  | infinity s => exact word_negB s _ (by rw [ir_eq]; decide)
  | nan s f => cases h

theorem map_write_opp (o : Option Datum) (h : ∀ d, o = some d → d.isNaN = false) : (o.map Datum.opposite).map double.write = (o.map double.write).map negB := by
  cases o with
  | none => rfl
  | some d => simp only [Option.map_some]; rw [write_negB d (h d rfl)]

theorem product_opp_l (a b : Datum) : a.opposite.product b = (a.product b).map Datum.opposite := by
  cases a <;> cases b <;> simp only [Datum.opposite, Datum.product, Option.map_none, Option.map_some, Bool.not_xor]
  · split <;> simp [Datum.opposite]
  · split <;> simp [Datum.opposite]
theorem product_comm (a b : Datum) : a.product b = b.product a := by
  cases a <;> cases b <;> simp only [Datum.product]
  · rw [Bool.xor_comm, Nat.mul_comm, Int.add_comm]
  · rw [Bool.xor_comm]
theorem quotient_opp_l (k : Nat) (a b : Datum) : a.opposite.quotient k b = (a.quotient k b).map Datum.opposite := by
  cases a <;> cases b <;> simp only [Datum.opposite, Datum.quotient, Option.map_none, Option.map_some, Bool.not_xor]
  split
  · split <;> simp [Datum.opposite]
  · simp [Datum.opposite]

theorem mul_comm' (x y : Nat) : double.mul x y = double.mul y x := by unfold Format.mul; rw [product_comm]
theorem mul_neg_l {x : Nat} (h : x < 2 ^ 64) (y : Nat) : double.mul (negB x) y = (double.mul x y).map negB := by
  unfold Format.mul
  rw [read_negB h, product_opp_l, map_write_opp _ (fun _ => product_notnan)]
theorem mul_neg_r {y : Nat} (h : y < 2 ^ 64) (x : Nat) : double.mul x (negB y) = (double.mul x y).map negB := by
  rw [mul_comm', mul_neg_l h, mul_comm']
theorem div_neg_l {x : Nat} (h : x < 2 ^ 64) (y : Nat) : double.div (negB x) y = (double.div x y).map negB := by
  unfold Format.div
  rw [read_negB h, quotient_opp_l, map_write_opp _ (fun _ => quotient_notnan)]

/-! ### x - y against y - x -/
theorem signed_not (s : Bool) (m u : Nat) : signed (!s) m u = - signed s m u := by
  unfold signed; cases s <;> simp
theorem sum_swap (a b : Datum) : (b.sum a.opposite = (a.sum b.opposite).map Datum.opposite) ∨ (∃ p, a.sum b.opposite = some (.number false 0 p) ∧ b.sum a.opposite = some (.number false 0 p)) := by
  cases a with
  | nan => left; cases b <;> rfl
  | infinity s =>
    left
    cases b with
    | nan => rfl
    | infinity t =>
      cases s <;> cases t <;> rfl
    | number t n j => rfl
  | number s m i =>
    cases b with
    | nan => left; rfl
    | infinity t => left; simp only [Datum.opposite, Datum.sum, Option.map_some]; cases t <;> rfl
    | number t n j =>
      simp only [Datum.opposite, Datum.sum, Option.map_some, Option.some.injEq, Datum.number.injEq]
      rw [Int.min_comm j i, signed_not, signed_not]
      obtain ⟨A, hA⟩ : ∃ A, A = signed s m (i - min i j).toNat := ⟨_, rfl⟩
      obtain ⟨B, hB⟩ : ∃ B, B = signed t n (j - min i j).toNat := ⟨_, rfl⟩
      rw [← hA, ← hB]
      by_cases h0 : A + -B = 0
      · have h1 : B + -A = 0 := by omega
        rw [if_pos h0, if_pos h1, h0, h1]
        cases s <;> cases t <;> simp
      · have h1 : ¬ B + -A = 0 := by omega
        rw [if_neg h0, if_neg h1]
        left
        refine ⟨?_, by omega, rfl⟩
        by_cases hl : A + -B < 0
        · simp [hl]; omega
        · simp [hl]; omega

theorem sub_swap (x y : Nat) : (double.sub y x = (double.sub x y).map negB) ∨ (double.sub x y = some 0 ∧ double.sub y x = some 0) := by
  unfold Format.sub
  rcases sum_swap (double.read x) (double.read y) with h | ⟨p, h1, h2⟩
  · left; rw [h, map_write_opp _ (fun _ => sum_notnan)]
  · right
    rw [h1, h2]
    have : double.write (.number false 0 p) = 0 := rfl
    simp [this]

theorem sub_self {x k : Nat} (h : Fin x k) (hk : k ≤ 1023) : double.sub x x = some 0 := by
  obtain ⟨m, t, ex, _⟩ := h.read hk
  unfold Format.sub
  rw [ex]
  simp only [Datum.opposite, Datum.sum, signed_not]
  have e : ∀ z : Int, z + -z = 0 := fun z => by omega
  rw [e]
  simp only [if_true]
  have : ((x / SW % 2 == 1) && !(x / SW % 2 == 1)) = false := by cases (x / SW % 2 == 1) <;> rfl
  rw [this]
  rfl

/-- A bounded number times +0. -/
theorem mul_zero_fin {x k : Nat} (h : Fin x k) (hk : k ≤ 1023) : double.mul x 0 = some 0 ∨ double.mul x 0 = some SW := by
  obtain ⟨m, t, ex, _⟩ := h.read hk
  unfold Format.mul
  rw [ex]
  have e0 : double.read 0 = .number false 0 (-1074) := by decide
  rw [e0]
  simp only [Datum.product, Nat.mul_zero]
  show some (double.word ((x / SW % 2 == 1) ^^ false) 0) = some 0 ∨ some (double.word ((x / SW % 2 == 1) ^^ false) 0) = some SW
  cases (x / SW % 2 == 1)
  · left; rfl
  · right; decide

/-! ### order -/
/-- A word's size, in units of 2^-1074. -/
def val (r : Nat) : Nat := if r < BN then r else (BN + r % BN) * 2 ^ (r / BN - 1)

theorem val_lt {r s : Nat} (h : r < s) : val r < val s := by
  have hB : 0 < BN := by decide
  have e52 : BN = 2 ^ 52 := by decide
  unfold val
  by_cases hs : s < BN
  · rw [if_pos hs, if_pos (by omega)]; exact h
  rw [if_neg hs]
  by_cases hr : r < BN
  · rw [if_pos hr]
    refine Nat.lt_of_lt_of_le hr ?_
    exact Nat.le_trans (Nat.le_add_right BN (s % BN)) (Nat.le_mul_of_pos_right _ (Nat.two_pow_pos _))
  rw [if_neg hr]
  have hq : 1 ≤ r / BN := (Nat.one_le_div_iff hB).2 (by omega)
  have hrm : r % BN < BN := Nat.mod_lt _ hB
  have d1 := Nat.div_add_mod r BN
  have d2 := Nat.div_add_mod s BN
  have hle : r / BN ≤ s / BN := Nat.div_le_div_right (Nat.le_of_lt h)
  rcases Nat.lt_or_ge (r / BN) (s / BN) with hlt | hge
  · have h1 : (BN + r % BN) * 2 ^ (r / BN - 1) < (2 * BN) * 2 ^ (r / BN - 1) := Nat.mul_lt_mul_of_pos_right (by omega) (Nat.two_pow_pos _)
    have h2 : (2 * BN) * 2 ^ (r / BN - 1) = BN * 2 ^ (r / BN) := by
      rw [Nat.mul_comm 2 BN, Nat.mul_assoc, ← Nat.pow_succ']
      congr 2; omega
    have h3 : BN * 2 ^ (r / BN) ≤ BN * 2 ^ (s / BN - 1) := Nat.mul_le_mul_left _ (Nat.pow_le_pow_right (by omega) (by omega))
    have h4 : BN * 2 ^ (s / BN - 1) ≤ (BN + s % BN) * 2 ^ (s / BN - 1) := Nat.mul_le_mul_right _ (by omega)
    omega
  · have heq : r / BN = s / BN := by omega
    rw [heq] at d1 ⊢
    exact Nat.mul_lt_mul_of_pos_right (by omega) (Nat.two_pow_pos _)

theorem read_val {b : Nat} (h : b % SW < IR) : ∃ m t : Nat, double.read b = .number (b / SW % 2 == 1) m (-1074 + (t : Int)) ∧ m * 2 ^ t = val (b % SW) := by
  rw [read_eq]
  by_cases hb : b % SW < BN
  · rw [if_pos hb]
    exact ⟨b % SW, 0, by simp, by simp [val, hb]⟩
  · rw [if_neg hb, if_pos h]
    exact ⟨_, _, rfl, by simp [val, hb]⟩

theorem icmp_lt {a b : Int} (h : a < b) : compare a b = .lt := by simp [compare, compareOfLessAndEq, h]
theorem icmp_eq (a : Int) : compare a a = .eq := by simp [compare, compareOfLessAndEq]
theorem icmp_gt {a b : Int} (h : b < a) : compare a b = .gt := by simp [compare, compareOfLessAndEq, show ¬ a < b by omega, show ¬ a = b by omega]
theorem ncmp_lt {a b : Nat} (h : a < b) : compare a b = .lt := by simp [compare, compareOfLessAndEq, h]
theorem ncmp_eq (a : Nat) : compare a a = .eq := by simp [compare, compareOfLessAndEq]
theorem ncmp_gt {a b : Nat} (h : b < a) : compare a b = .gt := by simp [compare, compareOfLessAndEq, show ¬ a < b by omega, show ¬ a = b by omega]
theorem compare_scale (A B : Int) (k : Nat) : compare (A * (2 ^ k : Nat)) (B * (2 ^ k : Nat)) = compare A B := by
  have hp : (0 : Int) < (2 ^ k : Nat) := by have := Nat.two_pow_pos k; omega
  rcases Int.lt_trichotomy A B with h | h | h
  · rw [icmp_lt h, icmp_lt (Int.mul_lt_mul_of_pos_right h hp)]
  · subst h; rw [icmp_eq, icmp_eq]
  · rw [icmp_gt h, icmp_gt (Int.mul_lt_mul_of_pos_right h hp)]

/-- The signed size. -/
def sval (b : Nat) : Int := if (b / SW % 2 == 1) then -(val (b % SW) : Int) else (val (b % SW) : Int)

theorem order_fin {x y : Nat} (hx : x % SW < IR) (hy : y % SW < IR) : double.order x y = some (compare (sval x) (sval y)) := by
  obtain ⟨m, t, ex, vx⟩ := read_val hx
  obtain ⟨n, u, ey, vy⟩ := read_val hy
  unfold Format.order
  rw [ex, ey]
  simp only [Datum.order]
  obtain ⟨base, hbase⟩ : ∃ base : Nat, base = min t u := ⟨_, rfl⟩
  have eb : min (-1074 + (t : Int)) (-1074 + (u : Int)) = -1074 + (base : Int) := by omega
  rw [eb]
  have e1 : (-1074 + (t : Int) - (-1074 + (base : Int))).toNat = t - base := by omega
  have e2 : (-1074 + (u : Int) - (-1074 + (base : Int))).toNat = u - base := by omega
  rw [e1, e2, ← compare_scale _ _ base]
  have es : ∀ (s : Bool) (m t : Nat), base ≤ t → signed s m (t - base) * (2 ^ base : Nat) = if s then -((m * 2 ^ t : Nat) : Int) else ((m * 2 ^ t : Nat) : Int) := by
    intro s m t hb
    have e3 : m * 2 ^ t = m * 2 ^ (t - base) * 2 ^ base := by rw [Nat.mul_assoc, ← Nat.pow_add]; congr 2; omega
    unfold signed
    rw [shl_eq, e3]
    split
    · rw [Int.neg_mul, ← Int.natCast_mul]
    · rw [← Int.natCast_mul]
  rw [es _ _ _ (by omega), es _ _ _ (by omega), vx, vy]
  rfl

theorem sval_low {b : Nat} (h : b < SW) : sval b = (val b : Int) := by
  unfold sval
  rw [Nat.div_eq_of_lt h, Nat.mod_eq_of_lt h]
  rfl

theorem compare_val (x y : Nat) : compare ((val x : Int)) ((val y : Int)) = compare x y := by
  rcases Nat.lt_trichotomy x y with h | h | h
  · rw [ncmp_lt h, icmp_lt (by have := val_lt h; omega)]
  · subst h; rw [ncmp_eq, icmp_eq]
  · rw [ncmp_gt h, icmp_gt (by have := val_lt h; omega)]

/-- Two finite words without a sign stand as their bits do. -/
theorem order_low {x y : Nat} (hx : x < IR) (hy : y < IR) : double.order x y = some (compare x y) := by
  have hI : IR < SW := by decide
  rw [order_fin (by rw [Nat.mod_eq_of_lt (by omega)]; exact hx) (by rw [Nat.mod_eq_of_lt (by omega)]; exact hy), sval_low (by omega), sval_low (by omega), compare_val]

theorem order_self {x : Nat} (h : nanB x = false) : double.order x x = some .eq := by
  have h' : ¬ IR < x % SW := by simpa [nanB] using h
  by_cases hf : x % SW < IR
  · rw [order_fin hf hf, icmp_eq]
  · unfold Format.order
    have : double.read x = .infinity (x / SW % 2 == 1) := by
      rw [read_eq, if_neg (by unfold BN IR at *; omega), if_neg hf, if_pos (by omega)]
    rw [this]
    simp only [Datum.order]
    rw [ncmp_eq]

/-- Against zero. -/
theorem val_pos {r : Nat} (h : 0 < r) : 0 < val r := by
  have := val_lt h
  have e : val 0 = 0 := by decide
  omega
theorem order_zero {x : Nat} (hx : x < 2 ^ 64) (hf : x % SW < IR) : double.order x 0 = some (if x % SW = 0 then .eq else if SW ≤ x then .lt else .gt) := by
  have h0 : (0 : Nat) % SW < IR := by decide
  rw [order_fin hf h0]
  have e0 : sval 0 = 0 := by decide
  rw [e0]
  unfold sval
  by_cases hz : x % SW = 0
  · rw [if_pos hz, hz]
    have e1 : val 0 = 0 := by decide
    rw [e1]
    have : (if (x / SW % 2 == 1) = true then -((0 : Nat) : Int) else ((0 : Nat) : Int)) = 0 := by split <;> rfl
    rw [this]; rfl
  · rw [if_neg hz]
    have hv := val_pos (show 0 < x % SW by omega)
    by_cases hs : SW ≤ x
    · rw [if_pos hs]
      have e1 : x / SW = 1 := by unfold SW at *; omega
      rw [e1]
      have : (if ((1 : Nat) % 2 == 1) = true then -(val (x % SW) : Int) else (val (x % SW) : Int)) = -(val (x % SW) : Int) := rfl
      rw [this, icmp_lt (by omega)]
    · rw [if_neg hs]
      have e1 : x / SW = 0 := Nat.div_eq_of_lt (by omega)
      rw [e1]
      have : (if ((0 : Nat) % 2 == 1) = true then -(val (x % SW) : Int) else (val (x % SW) : Int)) = (val (x % SW) : Int) := rfl
      rw [this, icmp_gt (by omega)]

/-! ### to and from whole numbers -/
theorem ofNat_fin (n k : Nat) (hk : k ≤ 1021) (h : n < 2 ^ (k + 1)) : Fin (double.nearest false n 0) (k + 1) := by
  refine nearest_fin _ _ _ k hk fun h0 => ?_
  have := (Nat.log2_lt h0).2 h
  omega

theorem scale_le (m t k c : Nat) (ht : c ≤ t) (hb : m * 2 ^ t ≤ 2 ^ (k + c)) : m * 2 ^ (t - c) ≤ 2 ^ k := by
  have : m * 2 ^ (t - c) * 2 ^ c ≤ 2 ^ k * 2 ^ c := by
    rw [Nat.mul_assoc, ← Nat.pow_add, ← Nat.pow_add, show t - c + c = t by omega]; exact hb
  exact Nat.le_of_mul_le_mul_right this (Nat.two_pow_pos _)

/-- A positive bounded number, cut to a whole one. -/
theorem toInt_fin {x k : Nat} (h : Fin x k) (hk : k ≤ 1000) (hs : x < SW) : ∃ n : Nat, (double.read x).toInt .zero = some (n : Int) ∧ n ≤ 2 ^ k := by
  obtain ⟨m, t, ex, hb⟩ := h.read (by omega)
  have e0 : (x / SW % 2 == 1) = false := by rw [Nat.div_eq_of_lt hs]; rfl
  rw [ex, e0]
  unfold Datum.toInt Datum.integral
  simp only [signed]
  refine ⟨_, rfl, ?_⟩
  rw [shl_eq, Nat.pow_zero, Nat.mul_one]
  unfold Toward.cut
  dsimp only
  simp only [Bool.toNat_false, Nat.add_zero]
  rw [shl_eq, shl_eq, Nat.one_mul]
  rcases Nat.le_total t 1074 with ht | ht
  · have e1 : (-1074 + (t : Int)).toNat = 0 := by omega
    have e2 : (-(-1074 + (t : Int))).toNat = 1074 - t := by omega
    rw [e1, e2, Nat.pow_zero, Nat.mul_one]
    rcases Nat.le_total (1074 - t) (m.log2 + 2) with hd | hd
    · rw [Nat.min_eq_left hd]
      refine Nat.div_le_of_le_mul ?_
      rw [← Nat.pow_add]
      have : m * 2 ^ t ≤ 2 ^ (1074 - t + k) * 2 ^ t := by
        rw [← Nat.pow_add, show 1074 - t + k + t = k + 1074 by omega]; exact hb
      exact Nat.le_of_mul_le_mul_right this (Nat.two_pow_pos _)
    · rw [Nat.min_eq_right hd]
      have hm : m < 2 ^ (m.log2 + 2) := Nat.lt_of_lt_of_le Nat.lt_log2_self (Nat.pow_le_pow_right (by omega) (by omega))
      rw [Nat.div_eq_of_lt hm]
      exact Nat.zero_le _
  · have e1 : (-1074 + (t : Int)).toNat = t - 1074 := by omega
    have e2 : (-(-1074 + (t : Int))).toNat = 0 := by omega
    rw [e1, e2, Nat.min_eq_left (Nat.zero_le _), Nat.pow_zero, Nat.div_one]
    exact scale_le m t k 1074 ht hb
end Go.Proofs.YbulkcivsDoor
