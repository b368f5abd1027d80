import Derived.Test.YbulkcivsDoorXB
import Derived.Test.YbulkcivsDoorXC
import Derived.Test.YbulkcivsDoorXD
import Derived.Test.YbulkcivsDoorFlD
namespace Go.Proofs.YbulkcivsDoor
open Go.RowKit
set_option linter.unusedVariables false

theorem mul_low {x y R a b : Nat} (hx : Fin x a) (hy : Fin y b) (ha : a ≤ 1023) (hb : b ≤ 1023) (sx : x < SW) (sy : y < SW) (h : Ieee.double.mul x y = some R) : R < SW := by
  obtain ⟨m, t, ex, _⟩ := hx.read ha
  obtain ⟨n, u, ey, _⟩ := hy.read hb
  unfold Ieee.Format.mul at h
  have e1 : (x / SW % 2 == 1) = false := by rw [Nat.div_eq_of_lt sx]; rfl
  have e2 : (y / SW % 2 == 1) = false := by rw [Nat.div_eq_of_lt sy]; rfl
  rw [ex, ey, e1, e2] at h
  have h' : Ieee.double.nearest false (m * n) (-1074 + (t : Int) + (-1074 + (u : Int))) = R := Option.some.inj h
  have hlt := nearest_mod_le false (m * n) (-1074 + (t : Int) + (-1074 + (u : Int)))
  have hw : ∀ r, Ieee.double.word false r = r := fun r => rfl
  have hb2 : Ieee.double.nearest false (m * n) (-1074 + (t : Int) + (-1074 + (u : Int))) ≤ IR := by
    unfold Ieee.Format.nearest
    dsimp only
    split
    · rw [hw]; omega
    · rw [hw, ir_eq]; exact Nat.min_le_right ..
  have hI : IR < SW := by decide
  omega

theorem mulT_fin2 {x y a b : Nat} (hx : Fin x a) (hy : Fin y b) (h1 : 1 ≤ a + b) (h : a + b ≤ 1022) : Fin (mulT x y) (a + b) ∧ mulT x y < 2 ^ 64 := by
  obtain ⟨r, hr, hf⟩ := mul_fin2 hx hy h1 h
  have e : mulT x y = r := by unfold mulT; rw [hr]; rfl
  rw [e]; exact ⟨hf, Ieee.double.mul_lt hr⟩
theorem addT_fin2 {x y a b : Nat} (hx : Fin x a) (hy : Fin y b) (h : max a b ≤ 1020) : Fin (addT x y) (max a b + 1) ∧ addT x y < 2 ^ 64 := by
  obtain ⟨r, hr, hf⟩ := add_fin2 hx hy h
  have e : addT x y = r := by unfold addT; rw [hr]; rfl
  rw [e]; exact ⟨hf, Ieee.double.add_lt hr⟩
theorem subT_fin2 {x y a b : Nat} (hx : Fin x a) (hy : Fin y b) (h : max a b ≤ 1020) : Fin (subT x y) (max a b + 1) ∧ subT x y < 2 ^ 64 := by
  obtain ⟨r, hr, hf⟩ := sub_fin2 hx hy h
  have e : subT x y = r := by unfold subT; rw [hr]; rfl
  rw [e]; exact ⟨hf, Ieee.double.sub_lt hr⟩

theorem sinP_fin {z : Nat} (h : Fin z 34) : Fin (sinP z) 482 ∧ sinP z < 2 ^ 64 := by
  have k0 : Fin 4460209587652500685 0 := by unfold Fin; decide
  have k1 : Fin 13716528389658582877 0 := by unfold Fin; decide
  have k2 : Fin 4523617212962785441 0 := by unfold Fin; decide
  have k3 : Fin 13774824197404483331 0 := by unfold Fin; decide
  have k4 : Fin 4575957461383575504 0 := by unfold Fin; decide
  have k5 : Fin 13818544856648471880 0 := by unfold Fin; decide
  have zz := (mulT_fin2 h h (by omega) (by omega)).1
  have a0 := (mulT_fin2 k0 zz (by omega) (by omega)).1
  have a1 := (addT_fin2 a0 k1 (by omega)).1
  have a2 := (mulT_fin2 a1 zz (by omega) (by omega)).1
  have a3 := (addT_fin2 a2 k2 (by omega)).1
  have a4 := (mulT_fin2 a3 zz (by omega) (by omega)).1
  have a5 := (addT_fin2 a4 k3 (by omega)).1
  have a6 := (mulT_fin2 a5 zz (by omega) (by omega)).1
  have a7 := (addT_fin2 a6 k4 (by omega)).1
  have a8 := (mulT_fin2 a7 zz (by omega) (by omega)).1
  have a9 := (addT_fin2 a8 k5 (by omega)).1
  have b0 := (mulT_fin2 h zz (by omega) (by omega)).1
  have b1 := (mulT_fin2 b0 a9 (by omega) (by omega)).1
  have b2 := addT_fin2 h b1 (by omega)
  exact ⟨b2.1.mono (by omega), b2.2⟩
theorem cosP_fin {z : Nat} (h : Fin z 34) : Fin (cosP z) 482 ∧ cosP z < 2 ^ 64 := by
  have k0 : Fin 13666448263388469915 0 := by unfold Fin; decide
  have k1 : Fin 4477121864728985349 0 := by unfold Fin; decide
  have k2 : Fin 13732177093698800582 0 := by unfold Fin; decide
  have k3 : Fin 4537941361668146421 0 := by unfold Fin; decide
  have k4 : Fin 13787419979223748497 0 := by unfold Fin; decide
  have k5 : Fin 4586165620538955083 0 := by unfold Fin; decide
  have k6 : Fin 4607182418800017408 0 := by unfold Fin; decide
  have k7 : Fin 4602678819172646912 0 := by unfold Fin; decide
  have zz := (mulT_fin2 h h (by omega) (by omega)).1
  have a0 := (mulT_fin2 k0 zz (by omega) (by omega)).1
  have a1 := (addT_fin2 a0 k1 (by omega)).1
  have a2 := (mulT_fin2 a1 zz (by omega) (by omega)).1
  have a3 := (addT_fin2 a2 k2 (by omega)).1
  have a4 := (mulT_fin2 a3 zz (by omega) (by omega)).1
  have a5 := (addT_fin2 a4 k3 (by omega)).1
  have a6 := (mulT_fin2 a5 zz (by omega) (by omega)).1
  have a7 := (addT_fin2 a6 k4 (by omega)).1
  have a8 := (mulT_fin2 a7 zz (by omega) (by omega)).1
  have a9 := (addT_fin2 a8 k5 (by omega)).1
  have c0 := (mulT_fin2 k7 zz (by omega) (by omega)).1
  have c1 := (subT_fin2 k6 c0 (by omega)).1
  have b0 := (mulT_fin2 zz zz (by omega) (by omega)).1
  have b1 := (mulT_fin2 b0 a9 (by omega) (by omega)).1
  have b2 := addT_fin2 c1 b1 (by omega)
  exact ⟨b2.1.mono (by omega), b2.2⟩
theorem smallZ_fin {x y : Nat} (hx : Fin x 29) (hy : Fin y 31) : Fin (smallZ x y) 34 := by
  have k0 : Fin 4605249456957292544 0 := by unfold Fin; decide
  have k1 : Fin 4495793288086814720 0 := by unfold Fin; decide
  have k2 : Fin 4388835458085048688 0 := by unfold Fin; decide
  have a0 := (mulT_fin2 hy k0 (by omega) (by omega)).1
  have a1 := (subT_fin2 hx a0 (by omega)).1
  have a2 := (mulT_fin2 hy k1 (by omega) (by omega)).1
  have a3 := (subT_fin2 a1 a2 (by omega)).1
  have a4 := (mulT_fin2 hy k2 (by omega) (by omega)).1
  have a5 := (subT_fin2 a3 a4 (by omega)).1
  exact a5.mono (by omega)
theorem sinC_fin {J : Int} {Z : Nat} (h : Fin Z 34) : Fin (sinC J Z) 482 ∧ sinC J Z < 2 ^ 64 := by
  obtain ⟨a1, a2⟩ := sinP_fin h
  obtain ⟨b1, b2⟩ := cosP_fin h
  unfold sinC
  split
  · exact ⟨a1, a2⟩
  · split
    · exact ⟨b1, b2⟩
    · split
      · exact ⟨a1.negB a2, negB_lt a2⟩
      · exact ⟨b1.negB b2, negB_lt b2⟩
theorem cosC_fin {J : Int} {Z : Nat} (h : Fin Z 34) : Fin (cosC J Z) 482 ∧ cosC J Z < 2 ^ 64 := by
  obtain ⟨a1, a2⟩ := sinP_fin h
  obtain ⟨b1, b2⟩ := cosP_fin h
  unfold cosC
  split
  · exact ⟨b1, b2⟩
  · split
    · exact ⟨a1.negB a2, negB_lt a2⟩
    · split
      · exact ⟨b1.negB b2, negB_lt b2⟩
      · exact ⟨a1, a2⟩

/-- What is wanted of the small reduction. -/
theorem small_facts (x : Nat) (h1 : x < 4737786807993761792) : Fin x 29 ∧ ∃ R n Y : Nat, Ieee.double.mul x 4608412980311869571 = some R ∧ (∀ w, (convert 22 47 (.float .f64 R)).run Ybad.prog w = .ok (.int .u64 (n : Int)) w) ∧ n ≤ 2147483648 ∧
    floatOfInt .f64 (n : Int) = Y ∧ Fin Y 30 := by
  have fx : Fin x 29 := by unfold Fin SW BN; omega
  refine ⟨fx, ?_⟩
  have fc : Fin 4608412980311869571 1 := by unfold Fin; decide
  obtain ⟨R, hR, fR⟩ := mul_fin2 fx fc (by omega) (by omega)
  have hRs : R < SW := mul_low fx fc (by omega) (by omega) (by unfold SW; omega) (by decide) hR
  obtain ⟨n, hn, hle⟩ := toInt_fin fR (by omega) hRs
  have hle2 : n ≤ 2 ^ 30 := hle
  have hle' : n ≤ 2147483648 := by omega
  refine ⟨R, n, _, hR, fun w => ?_, hle', rfl, ?_⟩
  · refine run_convert_float_int w 22 47 .f64 .u64 R n (by rw [Ybad.underlying22]; rfl) Ybad.underlying47 ?_
    unfold floatToIntVal
    have : (FloatKind.f64.decode R).toInt .zero = some (n : Int) := hn
    rw [this]
    have c : IntKind.u64.min ≤ (n : Int) ∧ (n : Int) ≤ IntKind.u64.max := by
      have e1 : IntKind.u64.min = 0 := by decide
      have e2 : IntKind.u64.max = 18446744073709551615 := by decide
      rw [e1, e2]; omega
    simp [c]
  · have e : floatOfInt .f64 (n : Int) = Ieee.double.nearest false n 0 := by
      unfold floatOfInt FloatKind.nearest FloatKind.encode
      have : decide ((n : Int) < 0) = false := decide_eq_false (by omega)
      rw [this, Int.natAbs_natCast]; rfl
    rw [e]
    exact ofNat_fin2 n 30 (by omega) (by omega) hle2

theorem parity (n : Nat) (h : n ≤ 2147483648) : ((bits .and .u64 (n : Int) 1 == 1) = false ∧ (bits .and .u64 (n : Int) 7 = 0 ∨ bits .and .u64 (n : Int) 7 = 2 ∨ bits .and .u64 (n : Int) 7 = 4 ∨ bits .and .u64 (n : Int) 7 = 6)) ∨
    ((bits .and .u64 (n : Int) 1 == 1) = true ∧ (bits .and .u64 ((n : Int) + 1) 7 = 0 ∨ bits .and .u64 ((n : Int) + 1) 7 = 2 ∨ bits .and .u64 ((n : Int) + 1) 7 = 4 ∨ bits .and .u64 ((n : Int) + 1) 7 = 6)) := by
  have e1 : bits .and .u64 (n : Int) 1 = ((n % 2 : Nat) : Int) := by
    have := u64_and_nat n 1 (by omega) (by omega)
    rw [show ((1 : Nat) : Int) = 1 from rfl] at this
    rw [this, show (1 : Nat) = 2 ^ 1 - 1 by decide, Nat.and_two_pow_sub_one_eq_mod]
  have e7 : ∀ m : Nat, m ≤ 2147483649 → bits .and .u64 (m : Int) 7 = ((m % 8 : Nat) : Int) := by
    intro m hm
    have := u64_and_nat m 7 (by omega) (by omega)
    rw [show ((7 : Nat) : Int) = 7 from rfl] at this
    rw [this, show (7 : Nat) = 2 ^ 3 - 1 by decide, Nat.and_two_pow_sub_one_eq_mod]
  have e8 : ((n : Int) + 1) = ((n + 1 : Nat) : Int) := by omega
  rw [e1, e8, e7 n (by omega), e7 (n + 1) (by omega)]
  rcases Nat.mod_two_eq_zero_or_one n with h0 | h0
  · left; rw [h0]; refine ⟨by decide, ?_⟩; omega
  · right; rw [h0]; refine ⟨by decide, ?_⟩; omega

/-- math.sin of a finite number and of its opposite. -/
theorem sin_pair (p : Nat) (h0 : 0 < p) (h1 : p < IR) : ∃ r, r < 2 ^ 64 ∧ Fin r 482 ∧
    (∀ w, Tabs w → Calls Ybad.prog 19 #[.float .f64 p] w fun e w' => (∃ n, w' = w.drewN n) ∧ e = .returned (.float .f64 r)) ∧
    (∀ w, Tabs w → Calls Ybad.prog 19 #[.float .f64 (negB p)] w fun e w' => (∃ n, w' = w.drewN n) ∧ e = .returned (.float .f64 (negB r))) := by
  have hI : IR < SW := by decide
  have hp64 : p < 2 ^ 64 := by unfold IR at h1; omega
  have hm : p % SW = p := Nat.mod_eq_of_lt (by omega)
  have hnb : negB p = p + SW := negB_low (by omega)
  have hnm : negB p % SW = p := by rw [negB_mod hp64, hm]
  have hn1 : nanB p = false := nanB_le (by omega)
  have hn2 : nanB (negB p) = false := nanB_le (by omega)
  have hi1 : infB p = false := by unfold infB; rw [hm]; exact decide_eq_false (by omega)
  have hi2 : infB (negB p) = false := by unfold infB; rw [hnm]; exact decide_eq_false (by omega)
  have hx2 := negB_lt hp64
  have oz1 : FloatKind.f64.format.order p 0 = some .gt := by
    show Ieee.double.order p 0 = some .gt
    rw [order_zero hp64 (by omega), if_neg (by omega), if_neg (by omega)]
  have oz2 : FloatKind.f64.format.order (negB p) 0 = some .lt := by
    show Ieee.double.order (negB p) 0 = some .lt
    rw [order_zero hx2 (by omega), if_neg (by omega), if_pos (by omega)]
  have a1 : (FloatKind.f64.format.order p 0 == some .eq) = false := by rw [oz1]; rfl
  have a2 : (FloatKind.f64.format.order p 0 == some .lt) = false := by rw [oz1]; rfl
  have b1 : (FloatKind.f64.format.order (negB p) 0 == some .eq) = false := by rw [oz2]; rfl
  have b2 : (FloatKind.f64.format.order (negB p) 0 == some .lt) = true := by rw [oz2]; rfl
  have ot : FloatKind.f64.format.order p 4737786807993761792 = some (compare p 4737786807993761792) := order_low h1 (by decide)
  by_cases hb : 4737786807993761792 ≤ p
  · have o3 : (FloatKind.f64.format.order p 4737786807993761792 == some .gt || FloatKind.f64.format.order p 4737786807993761792 == some .eq) = true := by
      rw [ot]
      rcases Nat.lt_or_ge 4737786807993761792 p with h | h
      · rw [ncmp_gt h]; rfl
      · have : p = 4737786807993761792 := by omega
        rw [this, ncmp_eq]; rfl
    obtain ⟨J, Z, hJ, fZ, _, ht⟩ := trig_any p hb h1
    have fZ' : Fin Z 34 := fZ.mono (by omega)
    obtain ⟨f1, f2⟩ := sinC_fin (J := J) fZ'
    refine ⟨sinC J Z, f2, f1, ?_, ?_⟩
    · intro w hw
      rcases hJ with rfl | rfl | rfl | rfl
      · exact sin_p_big_0 p Z w hw a1 a2 hn1 hi1 hp64 o3 (fZ'.mono (by omega)) ht
      · exact sin_p_big_2 p Z w hw a1 a2 hn1 hi1 hp64 o3 (fZ'.mono (by omega)) ht
      · exact sin_p_big_4 p Z w hw a1 a2 hn1 hi1 hp64 o3 (fZ'.mono (by omega)) ht
      · exact sin_p_big_6 p Z w hw a1 a2 hn1 hi1 hp64 o3 (fZ'.mono (by omega)) ht
    · intro w hw
      rcases hJ with rfl | rfl | rfl | rfl
      · exact sin_n_big_0 p Z w hw b1 b2 hn2 hi2 hx2 o3 (fZ'.mono (by omega)) ht
      · exact sin_n_big_2 p Z w hw b1 b2 hn2 hi2 hx2 o3 (fZ'.mono (by omega)) ht
      · exact sin_n_big_4 p Z w hw b1 b2 hn2 hi2 hx2 o3 (fZ'.mono (by omega)) ht
      · exact sin_n_big_6 p Z w hw b1 b2 hn2 hi2 hx2 o3 (fZ'.mono (by omega)) ht
  · have o3 : (FloatKind.f64.format.order p 4737786807993761792 == some .gt || FloatKind.f64.format.order p 4737786807993761792 == some .eq) = false := by
      rw [ot, ncmp_lt (by omega)]; rfl
    obtain ⟨fx, R, n, Y, hR, hcv, hn, hY, fY⟩ := small_facts p (by omega)
    rcases parity n hn with ⟨hp, hJ⟩ | ⟨hp, hJ⟩
    · obtain ⟨J, hJJ⟩ : ∃ J, bits .and .u64 (n : Int) 7 = J := ⟨_, rfl⟩
      rw [hJJ] at hJ
      have fZ : Fin (smallZ p Y) 34 := smallZ_fin fx (fY.mono (by omega))
      obtain ⟨f1, f2⟩ := sinC_fin (J := J) fZ
      refine ⟨sinC J (smallZ p Y), f2, f1, ?_, ?_⟩
      · intro w hw
        rcases hJ with rfl | rfl | rfl | rfl
        · exact sin_p_even_0 p R n Y w hw a1 a2 hn1 hi1 hp64 o3 fx hR hcv hn hY (fY.mono (by omega)) hp hJJ
        · exact sin_p_even_2 p R n Y w hw a1 a2 hn1 hi1 hp64 o3 fx hR hcv hn hY (fY.mono (by omega)) hp hJJ
        · exact sin_p_even_4 p R n Y w hw a1 a2 hn1 hi1 hp64 o3 fx hR hcv hn hY (fY.mono (by omega)) hp hJJ
        · exact sin_p_even_6 p R n Y w hw a1 a2 hn1 hi1 hp64 o3 fx hR hcv hn hY (fY.mono (by omega)) hp hJJ
      · intro w hw
        rcases hJ with rfl | rfl | rfl | rfl
        · exact sin_n_even_0 p R n Y w hw b1 b2 hn2 hi2 hx2 o3 fx hR hcv hn hY (fY.mono (by omega)) hp hJJ
        · exact sin_n_even_2 p R n Y w hw b1 b2 hn2 hi2 hx2 o3 fx hR hcv hn hY (fY.mono (by omega)) hp hJJ
        · exact sin_n_even_4 p R n Y w hw b1 b2 hn2 hi2 hx2 o3 fx hR hcv hn hY (fY.mono (by omega)) hp hJJ
        · exact sin_n_even_6 p R n Y w hw b1 b2 hn2 hi2 hx2 o3 fx hR hcv hn hY (fY.mono (by omega)) hp hJJ
    · obtain ⟨J, hJJ⟩ : ∃ J, bits .and .u64 ((n : Int) + 1) 7 = J := ⟨_, rfl⟩
      rw [hJJ] at hJ
      have fo : Fin 4607182418800017408 0 := by unfold Fin; decide
      have fZ : Fin (smallZ p (addT Y 4607182418800017408)) 34 := smallZ_fin fx ((addT_fin2 fY fo (by omega)).1.mono (by omega))
      obtain ⟨f1, f2⟩ := sinC_fin (J := J) fZ
      refine ⟨sinC J (smallZ p (addT Y 4607182418800017408)), f2, f1, ?_, ?_⟩
      · intro w hw
        rcases hJ with rfl | rfl | rfl | rfl
        · exact sin_p_odd_0 p R n Y w hw a1 a2 hn1 hi1 hp64 o3 fx hR hcv hn hY (fY.mono (by omega)) hp hJJ
        · exact sin_p_odd_2 p R n Y w hw a1 a2 hn1 hi1 hp64 o3 fx hR hcv hn hY (fY.mono (by omega)) hp hJJ
        · exact sin_p_odd_4 p R n Y w hw a1 a2 hn1 hi1 hp64 o3 fx hR hcv hn hY (fY.mono (by omega)) hp hJJ
        · exact sin_p_odd_6 p R n Y w hw a1 a2 hn1 hi1 hp64 o3 fx hR hcv hn hY (fY.mono (by omega)) hp hJJ
      · intro w hw
        rcases hJ with rfl | rfl | rfl | rfl
        · exact sin_n_odd_0 p R n Y w hw b1 b2 hn2 hi2 hx2 o3 fx hR hcv hn hY (fY.mono (by omega)) hp hJJ
        · exact sin_n_odd_2 p R n Y w hw b1 b2 hn2 hi2 hx2 o3 fx hR hcv hn hY (fY.mono (by omega)) hp hJJ
        · exact sin_n_odd_4 p R n Y w hw b1 b2 hn2 hi2 hx2 o3 fx hR hcv hn hY (fY.mono (by omega)) hp hJJ
        · exact sin_n_odd_6 p R n Y w hw b1 b2 hn2 hi2 hx2 o3 fx hR hcv hn hY (fY.mono (by omega)) hp hJJ

/-- math.cos of a finite number: finite. -/
theorem cos_fin (X : Nat) (hX : X < 2 ^ 64) (h1 : X % SW < IR) : ∃ r, r < 2 ^ 64 ∧ Fin r 482 ∧
    (∀ w, Tabs w → Calls Ybad.prog 21 #[.float .f64 X] w fun e w' => (∃ n, w' = w.drewN n) ∧ e = .returned (.float .f64 r)) := by
  obtain ⟨p, hp⟩ : ∃ p, X % SW = p := ⟨_, rfl⟩
  rw [hp] at h1
  have hn1 : nanB X = false := nanB_le (by omega)
  have hi1 : infB X = false := by unfold infB; rw [hp]; exact decide_eq_false (by omega)
  have ot : FloatKind.f64.format.order p 4737786807993761792 = some (compare p 4737786807993761792) := order_low h1 (by decide)
  by_cases hb : 4737786807993761792 ≤ p
  · have o3 : (FloatKind.f64.format.order p 4737786807993761792 == some .gt || FloatKind.f64.format.order p 4737786807993761792 == some .eq) = true := by
      rw [ot]
      rcases Nat.lt_or_ge 4737786807993761792 p with h | h
      · rw [ncmp_gt h]; rfl
      · have : p = 4737786807993761792 := by omega
        rw [this, ncmp_eq]; rfl
    obtain ⟨J, Z, hJ, fZ, _, ht⟩ := trig_any p hb h1
    have fZ' : Fin Z 34 := fZ.mono (by omega)
    obtain ⟨f1, f2⟩ := cosC_fin (J := J) fZ'
    refine ⟨cosC J Z, f2, f1, ?_⟩
    intro w hw
    rcases hJ with rfl | rfl | rfl | rfl
    · exact cos_p_big_0 X p Z w hw hn1 hi1 hX hp o3 (fZ'.mono (by omega)) ht
    · exact cos_p_big_2 X p Z w hw hn1 hi1 hX hp o3 (fZ'.mono (by omega)) ht
    · exact cos_p_big_4 X p Z w hw hn1 hi1 hX hp o3 (fZ'.mono (by omega)) ht
    · exact cos_p_big_6 X p Z w hw hn1 hi1 hX hp o3 (fZ'.mono (by omega)) ht
  · have o3 : (FloatKind.f64.format.order p 4737786807993761792 == some .gt || FloatKind.f64.format.order p 4737786807993761792 == some .eq) = false := by
      rw [ot, ncmp_lt (by omega)]; rfl
    obtain ⟨fx, R, n, Y, hR, hcv, hn, hY, fY⟩ := small_facts p (by omega)
    rcases parity n hn with ⟨hpp, hJ⟩ | ⟨hpp, hJ⟩
    · obtain ⟨J, hJJ⟩ : ∃ J, bits .and .u64 (n : Int) 7 = J := ⟨_, rfl⟩
      rw [hJJ] at hJ
      have fZ : Fin (smallZ p Y) 34 := smallZ_fin fx (fY.mono (by omega))
      obtain ⟨f1, f2⟩ := cosC_fin (J := J) fZ
      refine ⟨cosC J (smallZ p Y), f2, f1, ?_⟩
      intro w hw
      rcases hJ with rfl | rfl | rfl | rfl
      · exact cos_p_even_0 X p R n Y w hw hn1 hi1 hX hp o3 fx hR hcv hn hY (fY.mono (by omega)) hpp hJJ
      · exact cos_p_even_2 X p R n Y w hw hn1 hi1 hX hp o3 fx hR hcv hn hY (fY.mono (by omega)) hpp hJJ
      · exact cos_p_even_4 X p R n Y w hw hn1 hi1 hX hp o3 fx hR hcv hn hY (fY.mono (by omega)) hpp hJJ
      · exact cos_p_even_6 X p R n Y w hw hn1 hi1 hX hp o3 fx hR hcv hn hY (fY.mono (by omega)) hpp hJJ
    · obtain ⟨J, hJJ⟩ : ∃ J, bits .and .u64 ((n : Int) + 1) 7 = J := ⟨_, rfl⟩
      rw [hJJ] at hJ
      have fo : Fin 4607182418800017408 0 := by unfold Fin; decide
      have fZ : Fin (smallZ p (addT Y 4607182418800017408)) 34 := smallZ_fin fx ((addT_fin2 fY fo (by omega)).1.mono (by omega))
      obtain ⟨f1, f2⟩ := cosC_fin (J := J) fZ
      refine ⟨cosC J (smallZ p (addT Y 4607182418800017408)), f2, f1, ?_⟩
      intro w hw
      rcases hJ with rfl | rfl | rfl | rfl
      · exact cos_p_odd_0 X p R n Y w hw hn1 hi1 hX hp o3 fx hR hcv hn hY (fY.mono (by omega)) hpp hJJ
      · exact cos_p_odd_2 X p R n Y w hw hn1 hi1 hX hp o3 fx hR hcv hn hY (fY.mono (by omega)) hpp hJJ
      · exact cos_p_odd_4 X p R n Y w hw hn1 hi1 hX hp o3 fx hR hcv hn hY (fY.mono (by omega)) hpp hJJ
      · exact cos_p_odd_6 X p R n Y w hw hn1 hi1 hX hp o3 fx hR hcv hn hY (fY.mono (by omega)) hpp hJJ
end Go.Proofs.YbulkcivsDoor
