import Derived.Test.YbulkcivsDoorXA
namespace Go.Proofs.YbulkcivsDoor
open Go.RowKit
set_option linter.unusedVariables false

set_option maxRecDepth 100000 in
set_option maxHeartbeats 2000000 in
theorem sin_p_big_0 (x Z : Nat) (w : World) (hT : Tabs w)
    (o1 : (FloatKind.f64.format.order x 0 == some .eq) = false) (o2 : (FloatKind.f64.format.order x 0 == some .lt) = false)
    (hn : nanB x = false) (hi : infB x = false) (hx : x < 2 ^ 64)
    (o3 : (FloatKind.f64.format.order x 4737786807993761792 == some .gt || FloatKind.f64.format.order x 4737786807993761792 == some .eq) = true)
    (fZ : Fin Z 41) (ht : Hid (∀ w, Tab4 w → Calls Ybad.prog 28 #[.float .f64 x] w fun e w' => (∃ n, w' = w.drewN n) ∧ e = .returned (.tuple #[.int .u64 0, .float .f64 Z]))) :
    Calls Ybad.prog 19 #[.float .f64 x] w fun e w' => (∃ n, w' = w.drewN n) ∧ e = .returned (.float .f64 (sinC 0 Z)) := by
  obtain ⟨hT4, hS, hC⟩ := hT
  have s0 := hS 0 (by omega)
  have s1 := hS 1 (by omega)
  have s2 := hS 2 (by omega)
  have s3 := hS 3 (by omega)
  have s4 := hS 4 (by omega)
  have s5 := hS 5 (by omega)
  simp only [sinL, List.getD_cons_zero, List.getD_cons_succ] at s0 s1 s2 s3 s4 s5
  have t0 := hC 0 (by omega)
  have t1 := hC 1 (by omega)
  have t2 := hC 2 (by omega)
  have t3 := hC 3 (by omega)
  have t4 := hC 4 (by omega)
  have t5 := hC 5 (by omega)
  simp only [cosL, List.getD_cons_zero, List.getD_cons_succ] at t0 t1 t2 t3 t4 t5
  have HT4 : Hid (Tab4 w) := hT4
  clear hT4 hS hC
  have f0 : Fin 4460209587652500685 0 := by unfold Fin; decide
  have f1 : Fin 13716528389658582877 0 := by unfold Fin; decide
  have f2 : Fin 4523617212962785441 0 := by unfold Fin; decide
  have f3 : Fin 13774824197404483331 0 := by unfold Fin; decide
  have f4 : Fin 4575957461383575504 0 := by unfold Fin; decide
  have f5 : Fin 13818544856648471880 0 := by unfold Fin; decide
  have f6 : Fin 13666448263388469915 0 := by unfold Fin; decide
  have f7 : Fin 4477121864728985349 0 := by unfold Fin; decide
  have f8 : Fin 13732177093698800582 0 := by unfold Fin; decide
  have f9 : Fin 4537941361668146421 0 := by unfold Fin; decide
  have f10 : Fin 13787419979223748497 0 := by unfold Fin; decide
  have f11 : Fin 4586165620538955083 0 := by unfold Fin; decide
  have f12 : Fin 4607182418800017408 0 := by unfold Fin; decide
  have f13 : Fin 4602678819172646912 0 := by unfold Fin; decide
  have f14 : Fin 4605249456957292544 0 := by unfold Fin; decide
  have f15 : Fin 4495793288086814720 0 := by unfold Fin; decide
  have f16 : Fin 4388835458085048688 0 := by unfold Fin; decide
  have un := unary_negB
  go_enter Ybad.func19, Ybad.ntmps19
  go_wp2_with (first | (go_at_call 10; refine (isNaN_any _ _).mono ?_; rintro e w' ⟨rfl, rfl⟩) | (go_at_call 11; refine (isInf_any _ hx hn _).mono ?_; rintro e w' ⟨rfl, rfl⟩) | (go_at_call 28; refine (ht.out _ HT4.out).mono ?_; rintro e w' ⟨⟨n, rfl⟩, rfl⟩) | (rw [fop_guard]; first | (refine law_mulT (by rfl) (by rfl) (by assumption) (by assumption) (by decide) ?_; intro r hr fr lr) | (refine law_addT (by rfl) (by rfl) (by assumption) (by assumption) (by decide) ?_; intro r hr fr lr) | (refine law_subT (by rfl) (by rfl) (by assumption) (by assumption) (by decide) ?_; intro r hr fr lr)))
  go_ret
  refine ⟨⟨_, rfl⟩, ?_⟩
  unfold Hid at *
  subst_vars
  rfl

set_option maxRecDepth 100000 in
set_option maxHeartbeats 2000000 in
theorem sin_p_big_2 (x Z : Nat) (w : World) (hT : Tabs w)
    (o1 : (FloatKind.f64.format.order x 0 == some .eq) = false) (o2 : (FloatKind.f64.format.order x 0 == some .lt) = false)
    (hn : nanB x = false) (hi : infB x = false) (hx : x < 2 ^ 64)
    (o3 : (FloatKind.f64.format.order x 4737786807993761792 == some .gt || FloatKind.f64.format.order x 4737786807993761792 == some .eq) = true)
    (fZ : Fin Z 41) (ht : Hid (∀ w, Tab4 w → Calls Ybad.prog 28 #[.float .f64 x] w fun e w' => (∃ n, w' = w.drewN n) ∧ e = .returned (.tuple #[.int .u64 2, .float .f64 Z]))) :
    Calls Ybad.prog 19 #[.float .f64 x] w fun e w' => (∃ n, w' = w.drewN n) ∧ e = .returned (.float .f64 (sinC 2 Z)) := by
  obtain ⟨hT4, hS, hC⟩ := hT
  have s0 := hS 0 (by omega)
  have s1 := hS 1 (by omega)
  have s2 := hS 2 (by omega)
  have s3 := hS 3 (by omega)
  have s4 := hS 4 (by omega)
  have s5 := hS 5 (by omega)
  simp only [sinL, List.getD_cons_zero, List.getD_cons_succ] at s0 s1 s2 s3 s4 s5
  have t0 := hC 0 (by omega)
  have t1 := hC 1 (by omega)
  have t2 := hC 2 (by omega)
  have t3 := hC 3 (by omega)
  have t4 := hC 4 (by omega)
  have t5 := hC 5 (by omega)
  simp only [cosL, List.getD_cons_zero, List.getD_cons_succ] at t0 t1 t2 t3 t4 t5
  have HT4 : Hid (Tab4 w) := hT4
  clear hT4 hS hC
  have f0 : Fin 4460209587652500685 0 := by unfold Fin; decide
  have f1 : Fin 13716528389658582877 0 := by unfold Fin; decide
  have f2 : Fin 4523617212962785441 0 := by unfold Fin; decide
  have f3 : Fin 13774824197404483331 0 := by unfold Fin; decide
  have f4 : Fin 4575957461383575504 0 := by unfold Fin; decide
  have f5 : Fin 13818544856648471880 0 := by unfold Fin; decide
  have f6 : Fin 13666448263388469915 0 := by unfold Fin; decide
  have f7 : Fin 4477121864728985349 0 := by unfold Fin; decide
  have f8 : Fin 13732177093698800582 0 := by unfold Fin; decide
  have f9 : Fin 4537941361668146421 0 := by unfold Fin; decide
  have f10 : Fin 13787419979223748497 0 := by unfold Fin; decide
  have f11 : Fin 4586165620538955083 0 := by unfold Fin; decide
  have f12 : Fin 4607182418800017408 0 := by unfold Fin; decide
  have f13 : Fin 4602678819172646912 0 := by unfold Fin; decide
  have f14 : Fin 4605249456957292544 0 := by unfold Fin; decide
  have f15 : Fin 4495793288086814720 0 := by unfold Fin; decide
  have f16 : Fin 4388835458085048688 0 := by unfold Fin; decide
  have un := unary_negB
  go_enter Ybad.func19, Ybad.ntmps19
  go_wp2_with (first | (go_at_call 10; refine (isNaN_any _ _).mono ?_; rintro e w' ⟨rfl, rfl⟩) | (go_at_call 11; refine (isInf_any _ hx hn _).mono ?_; rintro e w' ⟨rfl, rfl⟩) | (go_at_call 28; refine (ht.out _ HT4.out).mono ?_; rintro e w' ⟨⟨n, rfl⟩, rfl⟩) | (rw [fop_guard]; first | (refine law_mulT (by rfl) (by rfl) (by assumption) (by assumption) (by decide) ?_; intro r hr fr lr) | (refine law_addT (by rfl) (by rfl) (by assumption) (by assumption) (by decide) ?_; intro r hr fr lr) | (refine law_subT (by rfl) (by rfl) (by assumption) (by assumption) (by decide) ?_; intro r hr fr lr)))
  go_ret
  refine ⟨⟨_, rfl⟩, ?_⟩
  unfold Hid at *
  subst_vars
  rfl

set_option maxRecDepth 100000 in
set_option maxHeartbeats 2000000 in
theorem sin_p_big_4 (x Z : Nat) (w : World) (hT : Tabs w)
    (o1 : (FloatKind.f64.format.order x 0 == some .eq) = false) (o2 : (FloatKind.f64.format.order x 0 == some .lt) = false)
    (hn : nanB x = false) (hi : infB x = false) (hx : x < 2 ^ 64)
    (o3 : (FloatKind.f64.format.order x 4737786807993761792 == some .gt || FloatKind.f64.format.order x 4737786807993761792 == some .eq) = true)
    (fZ : Fin Z 41) (ht : Hid (∀ w, Tab4 w → Calls Ybad.prog 28 #[.float .f64 x] w fun e w' => (∃ n, w' = w.drewN n) ∧ e = .returned (.tuple #[.int .u64 4, .float .f64 Z]))) :
    Calls Ybad.prog 19 #[.float .f64 x] w fun e w' => (∃ n, w' = w.drewN n) ∧ e = .returned (.float .f64 (sinC 4 Z)) := by
  obtain ⟨hT4, hS, hC⟩ := hT
  have s0 := hS 0 (by omega)
  have s1 := hS 1 (by omega)
  have s2 := hS 2 (by omega)
  have s3 := hS 3 (by omega)
  have s4 := hS 4 (by omega)
  have s5 := hS 5 (by omega)
  simp only [sinL, List.getD_cons_zero, List.getD_cons_succ] at s0 s1 s2 s3 s4 s5
  have t0 := hC 0 (by omega)
  have t1 := hC 1 (by omega)
  have t2 := hC 2 (by omega)
  have t3 := hC 3 (by omega)
  have t4 := hC 4 (by omega)
  have t5 := hC 5 (by omega)
  simp only [cosL, List.getD_cons_zero, List.getD_cons_succ] at t0 t1 t2 t3 t4 t5
  have HT4 : Hid (Tab4 w) := hT4
  clear hT4 hS hC
  have f0 : Fin 4460209587652500685 0 := by unfold Fin; decide
  have f1 : Fin 13716528389658582877 0 := by unfold Fin; decide
  have f2 : Fin 4523617212962785441 0 := by unfold Fin; decide
  have f3 : Fin 13774824197404483331 0 := by unfold Fin; decide
  have f4 : Fin 4575957461383575504 0 := by unfold Fin; decide
  have f5 : Fin 13818544856648471880 0 := by unfold Fin; decide
  have f6 : Fin 13666448263388469915 0 := by unfold Fin; decide
  have f7 : Fin 4477121864728985349 0 := by unfold Fin; decide
  have f8 : Fin 13732177093698800582 0 := by unfold Fin; decide
  have f9 : Fin 4537941361668146421 0 := by unfold Fin; decide
  have f10 : Fin 13787419979223748497 0 := by unfold Fin; decide
  have f11 : Fin 4586165620538955083 0 := by unfold Fin; decide
  have f12 : Fin 4607182418800017408 0 := by unfold Fin; decide
  have f13 : Fin 4602678819172646912 0 := by unfold Fin; decide
  have f14 : Fin 4605249456957292544 0 := by unfold Fin; decide
  have f15 : Fin 4495793288086814720 0 := by unfold Fin; decide
  have f16 : Fin 4388835458085048688 0 := by unfold Fin; decide
  have un := unary_negB
  go_enter Ybad.func19, Ybad.ntmps19
  go_wp2_with (first | (go_at_call 10; refine (isNaN_any _ _).mono ?_; rintro e w' ⟨rfl, rfl⟩) | (go_at_call 11; refine (isInf_any _ hx hn _).mono ?_; rintro e w' ⟨rfl, rfl⟩) | (go_at_call 28; refine (ht.out _ HT4.out).mono ?_; rintro e w' ⟨⟨n, rfl⟩, rfl⟩) | (rw [fop_guard]; first | (refine law_mulT (by rfl) (by rfl) (by assumption) (by assumption) (by decide) ?_; intro r hr fr lr) | (refine law_addT (by rfl) (by rfl) (by assumption) (by assumption) (by decide) ?_; intro r hr fr lr) | (refine law_subT (by rfl) (by rfl) (by assumption) (by assumption) (by decide) ?_; intro r hr fr lr)))
  go_ret
  refine ⟨⟨_, rfl⟩, ?_⟩
  unfold Hid at *
  subst_vars
  rfl

set_option maxRecDepth 100000 in
set_option maxHeartbeats 2000000 in
theorem sin_p_big_6 (x Z : Nat) (w : World) (hT : Tabs w)
    (o1 : (FloatKind.f64.format.order x 0 == some .eq) = false) (o2 : (FloatKind.f64.format.order x 0 == some .lt) = false)
    (hn : nanB x = false) (hi : infB x = false) (hx : x < 2 ^ 64)
    (o3 : (FloatKind.f64.format.order x 4737786807993761792 == some .gt || FloatKind.f64.format.order x 4737786807993761792 == some .eq) = true)
    (fZ : Fin Z 41) (ht : Hid (∀ w, Tab4 w → Calls Ybad.prog 28 #[.float .f64 x] w fun e w' => (∃ n, w' = w.drewN n) ∧ e = .returned (.tuple #[.int .u64 6, .float .f64 Z]))) :
    Calls Ybad.prog 19 #[.float .f64 x] w fun e w' => (∃ n, w' = w.drewN n) ∧ e = .returned (.float .f64 (sinC 6 Z)) := by
  obtain ⟨hT4, hS, hC⟩ := hT
  have s0 := hS 0 (by omega)
  have s1 := hS 1 (by omega)
  have s2 := hS 2 (by omega)
  have s3 := hS 3 (by omega)
  have s4 := hS 4 (by omega)
  have s5 := hS 5 (by omega)
  simp only [sinL, List.getD_cons_zero, List.getD_cons_succ] at s0 s1 s2 s3 s4 s5
  have t0 := hC 0 (by omega)
  have t1 := hC 1 (by omega)
  have t2 := hC 2 (by omega)
  have t3 := hC 3 (by omega)
  have t4 := hC 4 (by omega)
  have t5 := hC 5 (by omega)
  simp only [cosL, List.getD_cons_zero, List.getD_cons_succ] at t0 t1 t2 t3 t4 t5
  have HT4 : Hid (Tab4 w) := hT4
  clear hT4 hS hC
  have f0 : Fin 4460209587652500685 0 := by unfold Fin; decide
  have f1 : Fin 13716528389658582877 0 := by unfold Fin; decide
  have f2 : Fin 4523617212962785441 0 := by unfold Fin; decide
  have f3 : Fin 13774824197404483331 0 := by unfold Fin; decide
  have f4 : Fin 4575957461383575504 0 := by unfold Fin; decide
  have f5 : Fin 13818544856648471880 0 := by unfold Fin; decide
  have f6 : Fin 13666448263388469915 0 := by unfold Fin; decide
  have f7 : Fin 4477121864728985349 0 := by unfold Fin; decide
  have f8 : Fin 13732177093698800582 0 := by unfold Fin; decide
  have f9 : Fin 4537941361668146421 0 := by unfold Fin; decide
  have f10 : Fin 13787419979223748497 0 := by unfold Fin; decide
  have f11 : Fin 4586165620538955083 0 := by unfold Fin; decide
  have f12 : Fin 4607182418800017408 0 := by unfold Fin; decide
  have f13 : Fin 4602678819172646912 0 := by unfold Fin; decide
  have f14 : Fin 4605249456957292544 0 := by unfold Fin; decide
  have f15 : Fin 4495793288086814720 0 := by unfold Fin; decide
  have f16 : Fin 4388835458085048688 0 := by unfold Fin; decide
  have un := unary_negB
  go_enter Ybad.func19, Ybad.ntmps19
  go_wp2_with (first | (go_at_call 10; refine (isNaN_any _ _).mono ?_; rintro e w' ⟨rfl, rfl⟩) | (go_at_call 11; refine (isInf_any _ hx hn _).mono ?_; rintro e w' ⟨rfl, rfl⟩) | (go_at_call 28; refine (ht.out _ HT4.out).mono ?_; rintro e w' ⟨⟨n, rfl⟩, rfl⟩) | (rw [fop_guard]; first | (refine law_mulT (by rfl) (by rfl) (by assumption) (by assumption) (by decide) ?_; intro r hr fr lr) | (refine law_addT (by rfl) (by rfl) (by assumption) (by assumption) (by decide) ?_; intro r hr fr lr) | (refine law_subT (by rfl) (by rfl) (by assumption) (by assumption) (by decide) ?_; intro r hr fr lr)))
  go_ret
  refine ⟨⟨_, rfl⟩, ?_⟩
  unfold Hid at *
  subst_vars
  rfl

set_option maxRecDepth 100000 in
set_option maxHeartbeats 2000000 in
theorem sin_p_even_0 (x R n Y : Nat) (w : World) (hT : Tabs w)
    (o1 : (FloatKind.f64.format.order x 0 == some .eq) = false) (o2 : (FloatKind.f64.format.order x 0 == some .lt) = false)
    (hn : nanB x = false) (hi : infB x = false) (hx : x < 2 ^ 64)
    (o3 : (FloatKind.f64.format.order x 4737786807993761792 == some .gt || FloatKind.f64.format.order x 4737786807993761792 == some .eq) = false)
    (fx : Fin x 29) (hR : Hid (Ieee.double.mul x 4608412980311869571 = some R)) (hcv : ∀ w, (convert 22 47 (.float .f64 R)).run Ybad.prog w = .ok (.int .u64 (n : Int)) w) (hn2 : n ≤ 2147483648) (hy0 : floatOfInt .f64 (n : Int) = Y) (fY : Fin Y 32)
    (hp : (bits .and .u64 (n : Int) 1 == 1) = false) (hJ : bits .and .u64 (n : Int) 7 = 0) :
    Calls Ybad.prog 19 #[.float .f64 x] w fun e w' => (∃ n, w' = w.drewN n) ∧ e = .returned (.float .f64 (sinC 0 (smallZ x Y))) := by
  obtain ⟨hT4, hS, hC⟩ := hT
  have s0 := hS 0 (by omega)
  have s1 := hS 1 (by omega)
  have s2 := hS 2 (by omega)
  have s3 := hS 3 (by omega)
  have s4 := hS 4 (by omega)
  have s5 := hS 5 (by omega)
  simp only [sinL, List.getD_cons_zero, List.getD_cons_succ] at s0 s1 s2 s3 s4 s5
  have t0 := hC 0 (by omega)
  have t1 := hC 1 (by omega)
  have t2 := hC 2 (by omega)
  have t3 := hC 3 (by omega)
  have t4 := hC 4 (by omega)
  have t5 := hC 5 (by omega)
  simp only [cosL, List.getD_cons_zero, List.getD_cons_succ] at t0 t1 t2 t3 t4 t5
  have HT4 : Hid (Tab4 w) := hT4
  clear hT4 hS hC
  have f0 : Fin 4460209587652500685 0 := by unfold Fin; decide
  have f1 : Fin 13716528389658582877 0 := by unfold Fin; decide
  have f2 : Fin 4523617212962785441 0 := by unfold Fin; decide
  have f3 : Fin 13774824197404483331 0 := by unfold Fin; decide
  have f4 : Fin 4575957461383575504 0 := by unfold Fin; decide
  have f5 : Fin 13818544856648471880 0 := by unfold Fin; decide
  have f6 : Fin 13666448263388469915 0 := by unfold Fin; decide
  have f7 : Fin 4477121864728985349 0 := by unfold Fin; decide
  have f8 : Fin 13732177093698800582 0 := by unfold Fin; decide
  have f9 : Fin 4537941361668146421 0 := by unfold Fin; decide
  have f10 : Fin 13787419979223748497 0 := by unfold Fin; decide
  have f11 : Fin 4586165620538955083 0 := by unfold Fin; decide
  have f12 : Fin 4607182418800017408 0 := by unfold Fin; decide
  have f13 : Fin 4602678819172646912 0 := by unfold Fin; decide
  have f14 : Fin 4605249456957292544 0 := by unfold Fin; decide
  have f15 : Fin 4495793288086814720 0 := by unfold Fin; decide
  have f16 : Fin 4388835458085048688 0 := by unfold Fin; decide
  have hn3 : (n : Int) ≤ 2147483648 := by omega
  have hn4 : (0 : Int) ≤ (n : Int) := by omega
  have un := unary_negB
  go_enter Ybad.func19, Ybad.ntmps19
  go_wp2_with (first | (go_at_call 10; refine (isNaN_any _ _).mono ?_; rintro e w' ⟨rfl, rfl⟩) | (go_at_call 11; refine (isInf_any _ hx hn _).mono ?_; rintro e w' ⟨rfl, rfl⟩) | (rw [fop_guard]; refine law_mulR (by rfl) (by rfl) hR.out ?_) | (rw [fop_guard]; first | (refine law_mulT (by rfl) (by rfl) (by assumption) (by assumption) (by decide) ?_; intro r hr fr lr) | (refine law_addT (by rfl) (by rfl) (by assumption) (by assumption) (by decide) ?_; intro r hr fr lr) | (refine law_subT (by rfl) (by rfl) (by assumption) (by assumption) (by decide) ?_; intro r hr fr lr)))
  go_ret
  refine ⟨⟨_, (World.drewN_zero _).symm⟩, ?_⟩
  unfold Hid at *
  subst_vars
  rfl

set_option maxRecDepth 100000 in
set_option maxHeartbeats 2000000 in
theorem sin_p_even_2 (x R n Y : Nat) (w : World) (hT : Tabs w)
    (o1 : (FloatKind.f64.format.order x 0 == some .eq) = false) (o2 : (FloatKind.f64.format.order x 0 == some .lt) = false)
    (hn : nanB x = false) (hi : infB x = false) (hx : x < 2 ^ 64)
    (o3 : (FloatKind.f64.format.order x 4737786807993761792 == some .gt || FloatKind.f64.format.order x 4737786807993761792 == some .eq) = false)
    (fx : Fin x 29) (hR : Hid (Ieee.double.mul x 4608412980311869571 = some R)) (hcv : ∀ w, (convert 22 47 (.float .f64 R)).run Ybad.prog w = .ok (.int .u64 (n : Int)) w) (hn2 : n ≤ 2147483648) (hy0 : floatOfInt .f64 (n : Int) = Y) (fY : Fin Y 32)
    (hp : (bits .and .u64 (n : Int) 1 == 1) = false) (hJ : bits .and .u64 (n : Int) 7 = 2) :
    Calls Ybad.prog 19 #[.float .f64 x] w fun e w' => (∃ n, w' = w.drewN n) ∧ e = .returned (.float .f64 (sinC 2 (smallZ x Y))) := by
  obtain ⟨hT4, hS, hC⟩ := hT
  have s0 := hS 0 (by omega)
  have s1 := hS 1 (by omega)
  have s2 := hS 2 (by omega)
  have s3 := hS 3 (by omega)
  have s4 := hS 4 (by omega)
  have s5 := hS 5 (by omega)
  simp only [sinL, List.getD_cons_zero, List.getD_cons_succ] at s0 s1 s2 s3 s4 s5
  have t0 := hC 0 (by omega)
  have t1 := hC 1 (by omega)
  have t2 := hC 2 (by omega)
  have t3 := hC 3 (by omega)
  have t4 := hC 4 (by omega)
  have t5 := hC 5 (by omega)
  simp only [cosL, List.getD_cons_zero, List.getD_cons_succ] at t0 t1 t2 t3 t4 t5
  have HT4 : Hid (Tab4 w) := hT4
  clear hT4 hS hC
  have f0 : Fin 4460209587652500685 0 := by unfold Fin; decide
  have f1 : Fin 13716528389658582877 0 := by unfold Fin; decide
  have f2 : Fin 4523617212962785441 0 := by unfold Fin; decide
  have f3 : Fin 13774824197404483331 0 := by unfold Fin; decide
  have f4 : Fin 4575957461383575504 0 := by unfold Fin; decide
  have f5 : Fin 13818544856648471880 0 := by unfold Fin; decide
  have f6 : Fin 13666448263388469915 0 := by unfold Fin; decide
  have f7 : Fin 4477121864728985349 0 := by unfold Fin; decide
  have f8 : Fin 13732177093698800582 0 := by unfold Fin; decide
  have f9 : Fin 4537941361668146421 0 := by unfold Fin; decide
  have f10 : Fin 13787419979223748497 0 := by unfold Fin; decide
  have f11 : Fin 4586165620538955083 0 := by unfold Fin; decide
  have f12 : Fin 4607182418800017408 0 := by unfold Fin; decide
  have f13 : Fin 4602678819172646912 0 := by unfold Fin; decide
  have f14 : Fin 4605249456957292544 0 := by unfold Fin; decide
  have f15 : Fin 4495793288086814720 0 := by unfold Fin; decide
  have f16 : Fin 4388835458085048688 0 := by unfold Fin; decide
  have hn3 : (n : Int) ≤ 2147483648 := by omega
  have hn4 : (0 : Int) ≤ (n : Int) := by omega
  have un := unary_negB
  go_enter Ybad.func19, Ybad.ntmps19
  go_wp2_with (first | (go_at_call 10; refine (isNaN_any _ _).mono ?_; rintro e w' ⟨rfl, rfl⟩) | (go_at_call 11; refine (isInf_any _ hx hn _).mono ?_; rintro e w' ⟨rfl, rfl⟩) | (rw [fop_guard]; refine law_mulR (by rfl) (by rfl) hR.out ?_) | (rw [fop_guard]; first | (refine law_mulT (by rfl) (by rfl) (by assumption) (by assumption) (by decide) ?_; intro r hr fr lr) | (refine law_addT (by rfl) (by rfl) (by assumption) (by assumption) (by decide) ?_; intro r hr fr lr) | (refine law_subT (by rfl) (by rfl) (by assumption) (by assumption) (by decide) ?_; intro r hr fr lr)))
  go_ret
  refine ⟨⟨_, (World.drewN_zero _).symm⟩, ?_⟩
  unfold Hid at *
  subst_vars
  rfl

set_option maxRecDepth 100000 in
set_option maxHeartbeats 2000000 in
theorem sin_p_even_4 (x R n Y : Nat) (w : World) (hT : Tabs w)
    (o1 : (FloatKind.f64.format.order x 0 == some .eq) = false) (o2 : (FloatKind.f64.format.order x 0 == some .lt) = false)
    (hn : nanB x = false) (hi : infB x = false) (hx : x < 2 ^ 64)
    (o3 : (FloatKind.f64.format.order x 4737786807993761792 == some .gt || FloatKind.f64.format.order x 4737786807993761792 == some .eq) = false)
    (fx : Fin x 29) (hR : Hid (Ieee.double.mul x 4608412980311869571 = some R)) (hcv : ∀ w, (convert 22 47 (.float .f64 R)).run Ybad.prog w = .ok (.int .u64 (n : Int)) w) (hn2 : n ≤ 2147483648) (hy0 : floatOfInt .f64 (n : Int) = Y) (fY : Fin Y 32)
    (hp : (bits .and .u64 (n : Int) 1 == 1) = false) (hJ : bits .and .u64 (n : Int) 7 = 4) :
    Calls Ybad.prog 19 #[.float .f64 x] w fun e w' => (∃ n, w' = w.drewN n) ∧ e = .returned (.float .f64 (sinC 4 (smallZ x Y))) := by
  obtain ⟨hT4, hS, hC⟩ := hT
  have s0 := hS 0 (by omega)
  have s1 := hS 1 (by omega)
  have s2 := hS 2 (by omega)
  have s3 := hS 3 (by omega)
  have s4 := hS 4 (by omega)
  have s5 := hS 5 (by omega)
  simp only [sinL, List.getD_cons_zero, List.getD_cons_succ] at s0 s1 s2 s3 s4 s5
  have t0 := hC 0 (by omega)
  have t1 := hC 1 (by omega)
  have t2 := hC 2 (by omega)
  have t3 := hC 3 (by omega)
  have t4 := hC 4 (by omega)
  have t5 := hC 5 (by omega)
  simp only [cosL, List.getD_cons_zero, List.getD_cons_succ] at t0 t1 t2 t3 t4 t5
  have HT4 : Hid (Tab4 w) := hT4
  clear hT4 hS hC
  have f0 : Fin 4460209587652500685 0 := by unfold Fin; decide
  have f1 : Fin 13716528389658582877 0 := by unfold Fin; decide
  have f2 : Fin 4523617212962785441 0 := by unfold Fin; decide
  have f3 : Fin 13774824197404483331 0 := by unfold Fin; decide
  have f4 : Fin 4575957461383575504 0 := by unfold Fin; decide
  have f5 : Fin 13818544856648471880 0 := by unfold Fin; decide
  have f6 : Fin 13666448263388469915 0 := by unfold Fin; decide
  have f7 : Fin 4477121864728985349 0 := by unfold Fin; decide
  have f8 : Fin 13732177093698800582 0 := by unfold Fin; decide
  have f9 : Fin 4537941361668146421 0 := by unfold Fin; decide
  have f10 : Fin 13787419979223748497 0 := by unfold Fin; decide
  have f11 : Fin 4586165620538955083 0 := by unfold Fin; decide
  have f12 : Fin 4607182418800017408 0 := by unfold Fin; decide
  have f13 : Fin 4602678819172646912 0 := by unfold Fin; decide
  have f14 : Fin 4605249456957292544 0 := by unfold Fin; decide
  have f15 : Fin 4495793288086814720 0 := by unfold Fin; decide
  have f16 : Fin 4388835458085048688 0 := by unfold Fin; decide
  have hn3 : (n : Int) ≤ 2147483648 := by omega
  have hn4 : (0 : Int) ≤ (n : Int) := by omega
  have un := unary_negB
  go_enter Ybad.func19, Ybad.ntmps19
  go_wp2_with (first | (go_at_call 10; refine (isNaN_any _ _).mono ?_; rintro e w' ⟨rfl, rfl⟩) | (go_at_call 11; refine (isInf_any _ hx hn _).mono ?_; rintro e w' ⟨rfl, rfl⟩) | (rw [fop_guard]; refine law_mulR (by rfl) (by rfl) hR.out ?_) | (rw [fop_guard]; first | (refine law_mulT (by rfl) (by rfl) (by assumption) (by assumption) (by decide) ?_; intro r hr fr lr) | (refine law_addT (by rfl) (by rfl) (by assumption) (by assumption) (by decide) ?_; intro r hr fr lr) | (refine law_subT (by rfl) (by rfl) (by assumption) (by assumption) (by decide) ?_; intro r hr fr lr)))
  go_ret
  refine ⟨⟨_, (World.drewN_zero _).symm⟩, ?_⟩
  unfold Hid at *
  subst_vars
  rfl

set_option maxRecDepth 100000 in
set_option maxHeartbeats 2000000 in
theorem sin_p_even_6 (x R n Y : Nat) (w : World) (hT : Tabs w)
    (o1 : (FloatKind.f64.format.order x 0 == some .eq) = false) (o2 : (FloatKind.f64.format.order x 0 == some .lt) = false)
    (hn : nanB x = false) (hi : infB x = false) (hx : x < 2 ^ 64)
    (o3 : (FloatKind.f64.format.order x 4737786807993761792 == some .gt || FloatKind.f64.format.order x 4737786807993761792 == some .eq) = false)
    (fx : Fin x 29) (hR : Hid (Ieee.double.mul x 4608412980311869571 = some R)) (hcv : ∀ w, (convert 22 47 (.float .f64 R)).run Ybad.prog w = .ok (.int .u64 (n : Int)) w) (hn2 : n ≤ 2147483648) (hy0 : floatOfInt .f64 (n : Int) = Y) (fY : Fin Y 32)
    (hp : (bits .and .u64 (n : Int) 1 == 1) = false) (hJ : bits .and .u64 (n : Int) 7 = 6) :
    Calls Ybad.prog 19 #[.float .f64 x] w fun e w' => (∃ n, w' = w.drewN n) ∧ e = .returned (.float .f64 (sinC 6 (smallZ x Y))) := by
  obtain ⟨hT4, hS, hC⟩ := hT
  have s0 := hS 0 (by omega)
  have s1 := hS 1 (by omega)
  have s2 := hS 2 (by omega)
  have s3 := hS 3 (by omega)
  have s4 := hS 4 (by omega)
  have s5 := hS 5 (by omega)
  simp only [sinL, List.getD_cons_zero, List.getD_cons_succ] at s0 s1 s2 s3 s4 s5
  have t0 := hC 0 (by omega)
  have t1 := hC 1 (by omega)
  have t2 := hC 2 (by omega)
  have t3 := hC 3 (by omega)
  have t4 := hC 4 (by omega)
  have t5 := hC 5 (by omega)
  simp only [cosL, List.getD_cons_zero, List.getD_cons_succ] at t0 t1 t2 t3 t4 t5
  have HT4 : Hid (Tab4 w) := hT4
  clear hT4 hS hC
  have f0 : Fin 4460209587652500685 0 := by unfold Fin; decide
  have f1 : Fin 13716528389658582877 0 := by unfold Fin; decide
  have f2 : Fin 4523617212962785441 0 := by unfold Fin; decide
  have f3 : Fin 13774824197404483331 0 := by unfold Fin; decide
  have f4 : Fin 4575957461383575504 0 := by unfold Fin; decide
  have f5 : Fin 13818544856648471880 0 := by unfold Fin; decide
  have f6 : Fin 13666448263388469915 0 := by unfold Fin; decide
  have f7 : Fin 4477121864728985349 0 := by unfold Fin; decide
  have f8 : Fin 13732177093698800582 0 := by unfold Fin; decide
  have f9 : Fin 4537941361668146421 0 := by unfold Fin; decide
  have f10 : Fin 13787419979223748497 0 := by unfold Fin; decide
  have f11 : Fin 4586165620538955083 0 := by unfold Fin; decide
  have f12 : Fin 4607182418800017408 0 := by unfold Fin; decide
  have f13 : Fin 4602678819172646912 0 := by unfold Fin; decide
  have f14 : Fin 4605249456957292544 0 := by unfold Fin; decide
  have f15 : Fin 4495793288086814720 0 := by unfold Fin; decide
  have f16 : Fin 4388835458085048688 0 := by unfold Fin; decide
  have hn3 : (n : Int) ≤ 2147483648 := by omega
  have hn4 : (0 : Int) ≤ (n : Int) := by omega
  have un := unary_negB
  go_enter Ybad.func19, Ybad.ntmps19
  go_wp2_with (first | (go_at_call 10; refine (isNaN_any _ _).mono ?_; rintro e w' ⟨rfl, rfl⟩) | (go_at_call 11; refine (isInf_any _ hx hn _).mono ?_; rintro e w' ⟨rfl, rfl⟩) | (rw [fop_guard]; refine law_mulR (by rfl) (by rfl) hR.out ?_) | (rw [fop_guard]; first | (refine law_mulT (by rfl) (by rfl) (by assumption) (by assumption) (by decide) ?_; intro r hr fr lr) | (refine law_addT (by rfl) (by rfl) (by assumption) (by assumption) (by decide) ?_; intro r hr fr lr) | (refine law_subT (by rfl) (by rfl) (by assumption) (by assumption) (by decide) ?_; intro r hr fr lr)))
  go_ret
  refine ⟨⟨_, (World.drewN_zero _).symm⟩, ?_⟩
  unfold Hid at *
  subst_vars
  rfl

set_option maxRecDepth 100000 in
set_option maxHeartbeats 2000000 in
theorem sin_p_odd_0 (x R n Y : Nat) (w : World) (hT : Tabs w)
    (o1 : (FloatKind.f64.format.order x 0 == some .eq) = false) (o2 : (FloatKind.f64.format.order x 0 == some .lt) = false)
    (hn : nanB x = false) (hi : infB x = false) (hx : x < 2 ^ 64)
    (o3 : (FloatKind.f64.format.order x 4737786807993761792 == some .gt || FloatKind.f64.format.order x 4737786807993761792 == some .eq) = false)
    (fx : Fin x 29) (hR : Hid (Ieee.double.mul x 4608412980311869571 = some R)) (hcv : ∀ w, (convert 22 47 (.float .f64 R)).run Ybad.prog w = .ok (.int .u64 (n : Int)) w) (hn2 : n ≤ 2147483648) (hy0 : floatOfInt .f64 (n : Int) = Y) (fY : Fin Y 32)
    (hp : (bits .and .u64 (n : Int) 1 == 1) = true) (hJ : bits .and .u64 ((n : Int) + 1) 7 = 0) :
    Calls Ybad.prog 19 #[.float .f64 x] w fun e w' => (∃ n, w' = w.drewN n) ∧ e = .returned (.float .f64 (sinC 0 (smallZ x (addT Y 4607182418800017408)))) := by
  obtain ⟨hT4, hS, hC⟩ := hT
  have s0 := hS 0 (by omega)
  have s1 := hS 1 (by omega)
  have s2 := hS 2 (by omega)
  have s3 := hS 3 (by omega)
  have s4 := hS 4 (by omega)
  have s5 := hS 5 (by omega)
  simp only [sinL, List.getD_cons_zero, List.getD_cons_succ] at s0 s1 s2 s3 s4 s5
  have t0 := hC 0 (by omega)
  have t1 := hC 1 (by omega)
  have t2 := hC 2 (by omega)
  have t3 := hC 3 (by omega)
  have t4 := hC 4 (by omega)
  have t5 := hC 5 (by omega)
  simp only [cosL, List.getD_cons_zero, List.getD_cons_succ] at t0 t1 t2 t3 t4 t5
  have HT4 : Hid (Tab4 w) := hT4
  clear hT4 hS hC
  have f0 : Fin 4460209587652500685 0 := by unfold Fin; decide
  have f1 : Fin 13716528389658582877 0 := by unfold Fin; decide
  have f2 : Fin 4523617212962785441 0 := by unfold Fin; decide
  have f3 : Fin 13774824197404483331 0 := by unfold Fin; decide
  have f4 : Fin 4575957461383575504 0 := by unfold Fin; decide
  have f5 : Fin 13818544856648471880 0 := by unfold Fin; decide
  have f6 : Fin 13666448263388469915 0 := by unfold Fin; decide
  have f7 : Fin 4477121864728985349 0 := by unfold Fin; decide
  have f8 : Fin 13732177093698800582 0 := by unfold Fin; decide
  have f9 : Fin 4537941361668146421 0 := by unfold Fin; decide
  have f10 : Fin 13787419979223748497 0 := by unfold Fin; decide
  have f11 : Fin 4586165620538955083 0 := by unfold Fin; decide
  have f12 : Fin 4607182418800017408 0 := by unfold Fin; decide
  have f13 : Fin 4602678819172646912 0 := by unfold Fin; decide
  have f14 : Fin 4605249456957292544 0 := by unfold Fin; decide
  have f15 : Fin 4495793288086814720 0 := by unfold Fin; decide
  have f16 : Fin 4388835458085048688 0 := by unfold Fin; decide
  have hn3 : (n : Int) ≤ 2147483648 := by omega
  have hn4 : (0 : Int) ≤ (n : Int) := by omega
  have un := unary_negB
  go_enter Ybad.func19, Ybad.ntmps19
  go_wp2_with (first | (go_at_call 10; refine (isNaN_any _ _).mono ?_; rintro e w' ⟨rfl, rfl⟩) | (go_at_call 11; refine (isInf_any _ hx hn _).mono ?_; rintro e w' ⟨rfl, rfl⟩) | (rw [fop_guard]; refine law_mulR (by rfl) (by rfl) hR.out ?_) | (rw [fop_guard]; first | (refine law_mulT (by rfl) (by rfl) (by assumption) (by assumption) (by decide) ?_; intro r hr fr lr) | (refine law_addT (by rfl) (by rfl) (by assumption) (by assumption) (by decide) ?_; intro r hr fr lr) | (refine law_subT (by rfl) (by rfl) (by assumption) (by assumption) (by decide) ?_; intro r hr fr lr)))
  go_ret
  refine ⟨⟨_, (World.drewN_zero _).symm⟩, ?_⟩
  unfold Hid at *
  subst_vars
  rfl

set_option maxRecDepth 100000 in
set_option maxHeartbeats 2000000 in
theorem sin_p_odd_2 (x R n Y : Nat) (w : World) (hT : Tabs w)
    (o1 : (FloatKind.f64.format.order x 0 == some .eq) = false) (o2 : (FloatKind.f64.format.order x 0 == some .lt) = false)
    (hn : nanB x = false) (hi : infB x = false) (hx : x < 2 ^ 64)
    (o3 : (FloatKind.f64.format.order x 4737786807993761792 == some .gt || FloatKind.f64.format.order x 4737786807993761792 == some .eq) = false)
    (fx : Fin x 29) (hR : Hid (Ieee.double.mul x 4608412980311869571 = some R)) (hcv : ∀ w, (convert 22 47 (.float .f64 R)).run Ybad.prog w = .ok (.int .u64 (n : Int)) w) (hn2 : n ≤ 2147483648) (hy0 : floatOfInt .f64 (n : Int) = Y) (fY : Fin Y 32)
    (hp : (bits .and .u64 (n : Int) 1 == 1) = true) (hJ : bits .and .u64 ((n : Int) + 1) 7 = 2) :
    Calls Ybad.prog 19 #[.float .f64 x] w fun e w' => (∃ n, w' = w.drewN n) ∧ e = .returned (.float .f64 (sinC 2 (smallZ x (addT Y 4607182418800017408)))) := by
  obtain ⟨hT4, hS, hC⟩ := hT
  have s0 := hS 0 (by omega)
  have s1 := hS 1 (by omega)
  have s2 := hS 2 (by omega)
  have s3 := hS 3 (by omega)
  have s4 := hS 4 (by omega)
  have s5 := hS 5 (by omega)
  simp only [sinL, List.getD_cons_zero, List.getD_cons_succ] at s0 s1 s2 s3 s4 s5
  have t0 := hC 0 (by omega)
  have t1 := hC 1 (by omega)
  have t2 := hC 2 (by omega)
  have t3 := hC 3 (by omega)
  have t4 := hC 4 (by omega)
  have t5 := hC 5 (by omega)
  simp only [cosL, List.getD_cons_zero, List.getD_cons_succ] at t0 t1 t2 t3 t4 t5
  have HT4 : Hid (Tab4 w) := hT4
  clear hT4 hS hC
  have f0 : Fin 4460209587652500685 0 := by unfold Fin; decide
  have f1 : Fin 13716528389658582877 0 := by unfold Fin; decide
  have f2 : Fin 4523617212962785441 0 := by unfold Fin; decide
  have f3 : Fin 13774824197404483331 0 := by unfold Fin; decide
  have f4 : Fin 4575957461383575504 0 := by unfold Fin; decide
  have f5 : Fin 13818544856648471880 0 := by unfold Fin; decide
  have f6 : Fin 13666448263388469915 0 := by unfold Fin; decide
  have f7 : Fin 4477121864728985349 0 := by unfold Fin; decide
  have f8 : Fin 13732177093698800582 0 := by unfold Fin; decide
  have f9 : Fin 4537941361668146421 0 := by unfold Fin; decide
  have f10 : Fin 13787419979223748497 0 := by unfold Fin; decide
  have f11 : Fin 4586165620538955083 0 := by unfold Fin; decide
  have f12 : Fin 4607182418800017408 0 := by unfold Fin; decide
  have f13 : Fin 4602678819172646912 0 := by unfold Fin; decide
  have f14 : Fin 4605249456957292544 0 := by unfold Fin; decide
  have f15 : Fin 4495793288086814720 0 := by unfold Fin; decide
  have f16 : Fin 4388835458085048688 0 := by unfold Fin; decide
  have hn3 : (n : Int) ≤ 2147483648 := by omega
  have hn4 : (0 : Int) ≤ (n : Int) := by omega
  have un := unary_negB
  go_enter Ybad.func19, Ybad.ntmps19
  go_wp2_with (first | (go_at_call 10; refine (isNaN_any _ _).mono ?_; rintro e w' ⟨rfl, rfl⟩) | (go_at_call 11; refine (isInf_any _ hx hn _).mono ?_; rintro e w' ⟨rfl, rfl⟩) | (rw [fop_guard]; refine law_mulR (by rfl) (by rfl) hR.out ?_) | (rw [fop_guard]; first | (refine law_mulT (by rfl) (by rfl) (by assumption) (by assumption) (by decide) ?_; intro r hr fr lr) | (refine law_addT (by rfl) (by rfl) (by assumption) (by assumption) (by decide) ?_; intro r hr fr lr) | (refine law_subT (by rfl) (by rfl) (by assumption) (by assumption) (by decide) ?_; intro r hr fr lr)))
  go_ret
  refine ⟨⟨_, (World.drewN_zero _).symm⟩, ?_⟩
  unfold Hid at *
  subst_vars
  rfl

set_option maxRecDepth 100000 in
set_option maxHeartbeats 2000000 in
theorem sin_p_odd_4 (x R n Y : Nat) (w : World) (hT : Tabs w)
    (o1 : (FloatKind.f64.format.order x 0 == some .eq) = false) (o2 : (FloatKind.f64.format.order x 0 == some .lt) = false)
    (hn : nanB x = false) (hi : infB x = false) (hx : x < 2 ^ 64)
    (o3 : (FloatKind.f64.format.order x 4737786807993761792 == some .gt || FloatKind.f64.format.order x 4737786807993761792 == some .eq) = false)
    (fx : Fin x 29) (hR : Hid (Ieee.double.mul x 4608412980311869571 = some R)) (hcv : ∀ w, (convert 22 47 (.float .f64 R)).run Ybad.prog w = .ok (.int .u64 (n : Int)) w) (hn2 : n ≤ 2147483648) (hy0 : floatOfInt .f64 (n : Int) = Y) (fY : Fin Y 32)
    (hp : (bits .and .u64 (n : Int) 1 == 1) = true) (hJ : bits .and .u64 ((n : Int) + 1) 7 = 4) :
    Calls Ybad.prog 19 #[.float .f64 x] w fun e w' => (∃ n, w' = w.drewN n) ∧ e = .returned (.float .f64 (sinC 4 (smallZ x (addT Y 4607182418800017408)))) := by
  obtain ⟨hT4, hS, hC⟩ := hT
  have s0 := hS 0 (by omega)
  have s1 := hS 1 (by omega)
  have s2 := hS 2 (by omega)
  have s3 := hS 3 (by omega)
  have s4 := hS 4 (by omega)
  have s5 := hS 5 (by omega)
  simp only [sinL, List.getD_cons_zero, List.getD_cons_succ] at s0 s1 s2 s3 s4 s5
  have t0 := hC 0 (by omega)
  have t1 := hC 1 (by omega)
  have t2 := hC 2 (by omega)
  have t3 := hC 3 (by omega)
  have t4 := hC 4 (by omega)
  have t5 := hC 5 (by omega)
  simp only [cosL, List.getD_cons_zero, List.getD_cons_succ] at t0 t1 t2 t3 t4 t5
  have HT4 : Hid (Tab4 w) := hT4
  clear hT4 hS hC
  have f0 : Fin 4460209587652500685 0 := by unfold Fin; decide
  have f1 : Fin 13716528389658582877 0 := by unfold Fin; decide
  have f2 : Fin 4523617212962785441 0 := by unfold Fin; decide
  have f3 : Fin 13774824197404483331 0 := by unfold Fin; decide
  have f4 : Fin 4575957461383575504 0 := by unfold Fin; decide
  have f5 : Fin 13818544856648471880 0 := by unfold Fin; decide
  have f6 : Fin 13666448263388469915 0 := by unfold Fin; decide
  have f7 : Fin 4477121864728985349 0 := by unfold Fin; decide
  have f8 : Fin 13732177093698800582 0 := by unfold Fin; decide
  have f9 : Fin 4537941361668146421 0 := by unfold Fin; decide
  have f10 : Fin 13787419979223748497 0 := by unfold Fin; decide
  have f11 : Fin 4586165620538955083 0 := by unfold Fin; decide
  have f12 : Fin 4607182418800017408 0 := by unfold Fin; decide
  have f13 : Fin 4602678819172646912 0 := by unfold Fin; decide
  have f14 : Fin 4605249456957292544 0 := by unfold Fin; decide
  have f15 : Fin 4495793288086814720 0 := by unfold Fin; decide
  have f16 : Fin 4388835458085048688 0 := by unfold Fin; decide
  have hn3 : (n : Int) ≤ 2147483648 := by omega
  have hn4 : (0 : Int) ≤ (n : Int) := by omega
  have un := unary_negB
  go_enter Ybad.func19, Ybad.ntmps19
  go_wp2_with (first | (go_at_call 10; refine (isNaN_any _ _).mono ?_; rintro e w' ⟨rfl, rfl⟩) | (go_at_call 11; refine (isInf_any _ hx hn _).mono ?_; rintro e w' ⟨rfl, rfl⟩) | (rw [fop_guard]; refine law_mulR (by rfl) (by rfl) hR.out ?_) | (rw [fop_guard]; first | (refine law_mulT (by rfl) (by rfl) (by assumption) (by assumption) (by decide) ?_; intro r hr fr lr) | (refine law_addT (by rfl) (by rfl) (by assumption) (by assumption) (by decide) ?_; intro r hr fr lr) | (refine law_subT (by rfl) (by rfl) (by assumption) (by assumption) (by decide) ?_; intro r hr fr lr)))
  go_ret
  refine ⟨⟨_, (World.drewN_zero _).symm⟩, ?_⟩
  unfold Hid at *
  subst_vars
  rfl

set_option maxRecDepth 100000 in
set_option maxHeartbeats 2000000 in
theorem sin_p_odd_6 (x R n Y : Nat) (w : World) (hT : Tabs w)
    (o1 : (FloatKind.f64.format.order x 0 == some .eq) = false) (o2 : (FloatKind.f64.format.order x 0 == some .lt) = false)
    (hn : nanB x = false) (hi : infB x = false) (hx : x < 2 ^ 64)
    (o3 : (FloatKind.f64.format.order x 4737786807993761792 == some .gt || FloatKind.f64.format.order x 4737786807993761792 == some .eq) = false)
    (fx : Fin x 29) (hR : Hid (Ieee.double.mul x 4608412980311869571 = some R)) (hcv : ∀ w, (convert 22 47 (.float .f64 R)).run Ybad.prog w = .ok (.int .u64 (n : Int)) w) (hn2 : n ≤ 2147483648) (hy0 : floatOfInt .f64 (n : Int) = Y) (fY : Fin Y 32)
    (hp : (bits .and .u64 (n : Int) 1 == 1) = true) (hJ : bits .and .u64 ((n : Int) + 1) 7 = 6) :
    Calls Ybad.prog 19 #[.float .f64 x] w fun e w' => (∃ n, w' = w.drewN n) ∧ e = .returned (.float .f64 (sinC 6 (smallZ x (addT Y 4607182418800017408)))) := by
  obtain ⟨hT4, hS, hC⟩ := hT
  have s0 := hS 0 (by omega)
  have s1 := hS 1 (by omega)
  have s2 := hS 2 (by omega)
  have s3 := hS 3 (by omega)
  have s4 := hS 4 (by omega)
  have s5 := hS 5 (by omega)
  simp only [sinL, List.getD_cons_zero, List.getD_cons_succ] at s0 s1 s2 s3 s4 s5
  have t0 := hC 0 (by omega)
  have t1 := hC 1 (by omega)
  have t2 := hC 2 (by omega)
  have t3 := hC 3 (by omega)
  have t4 := hC 4 (by omega)
  have t5 := hC 5 (by omega)
  simp only [cosL, List.getD_cons_zero, List.getD_cons_succ] at t0 t1 t2 t3 t4 t5
  have HT4 : Hid (Tab4 w) := hT4
  clear hT4 hS hC
  have f0 : Fin 4460209587652500685 0 := by unfold Fin; decide
  have f1 : Fin 13716528389658582877 0 := by unfold Fin; decide
  have f2 : Fin 4523617212962785441 0 := by unfold Fin; decide
  have f3 : Fin 13774824197404483331 0 := by unfold Fin; decide
  have f4 : Fin 4575957461383575504 0 := by unfold Fin; decide
  have f5 : Fin 13818544856648471880 0 := by unfold Fin; decide
  have f6 : Fin 13666448263388469915 0 := by unfold Fin; decide
  have f7 : Fin 4477121864728985349 0 := by unfold Fin; decide
  have f8 : Fin 13732177093698800582 0 := by unfold Fin; decide
  have f9 : Fin 4537941361668146421 0 := by unfold Fin; decide
  have f10 : Fin 13787419979223748497 0 := by unfold Fin; decide
  have f11 : Fin 4586165620538955083 0 := by unfold Fin; decide
  have f12 : Fin 4607182418800017408 0 := by unfold Fin; decide
  have f13 : Fin 4602678819172646912 0 := by unfold Fin; decide
  have f14 : Fin 4605249456957292544 0 := by unfold Fin; decide
  have f15 : Fin 4495793288086814720 0 := by unfold Fin; decide
  have f16 : Fin 4388835458085048688 0 := by unfold Fin; decide
  have hn3 : (n : Int) ≤ 2147483648 := by omega
  have hn4 : (0 : Int) ≤ (n : Int) := by omega
  have un := unary_negB
  go_enter Ybad.func19, Ybad.ntmps19
  go_wp2_with (first | (go_at_call 10; refine (isNaN_any _ _).mono ?_; rintro e w' ⟨rfl, rfl⟩) | (go_at_call 11; refine (isInf_any _ hx hn _).mono ?_; rintro e w' ⟨rfl, rfl⟩) | (rw [fop_guard]; refine law_mulR (by rfl) (by rfl) hR.out ?_) | (rw [fop_guard]; first | (refine law_mulT (by rfl) (by rfl) (by assumption) (by assumption) (by decide) ?_; intro r hr fr lr) | (refine law_addT (by rfl) (by rfl) (by assumption) (by assumption) (by decide) ?_; intro r hr fr lr) | (refine law_subT (by rfl) (by rfl) (by assumption) (by assumption) (by decide) ?_; intro r hr fr lr)))
  go_ret
  refine ⟨⟨_, (World.drewN_zero _).symm⟩, ?_⟩
  unfold Hid at *
  subst_vars
  rfl

end Go.Proofs.YbulkcivsDoor
