import Derived.Test.YbulkcivsDoorWC
namespace Go.Proofs.YbulkcivsDoor
open Go.RowKit
set_option linter.unusedVariables false
set_option linter.unusedSimpArgs false

theorem cl_negB {x : Nat} (h : x < 2 ^ 64) : cl (negB x) = (cl x).map negB := by
  unfold cl; rw [negB_nan h]; split <;> rfl
theorem unary_negB (x : Nat) : Op.unary .neg (.float .f64 x) = pure (.float .f64 (negB x)) := rfl
theorem cl_nan_const : cl 9221120237041090561 = none := by decide

set_option maxHeartbeats 1000000 in
theorem asin_n1 (x : Nat) (hx : x < 2 ^ 64) (w : World) (h0 : (ford (cl x) (cl 0) == some .eq) = false) (hn : (ford (cl x) (cl 0) == some .lt) = true)
    (h1 : (ford (cl (negB x)) (cl 4607182418800017408) == some .gt) = true) :
    Calls Ybad.prog 23 #[.float .f64 x] w fun e w' => FlRes w (asinF (cl x)) e w' := by
  have o0 : FloatKind.f64.format.order x 0 = ford (cl x) (cl 0) := order_cl _ _
  have o1 : FloatKind.f64.format.order (negB x) 4607182418800017408 = ford (cl (negB x)) (cl 4607182418800017408) := order_cl _ _
  have o2 : FloatKind.f64.format.order (negB x) 4604480259023595110 = ford (cl (negB x)) (cl 4604480259023595110) := order_cl _ _
  have on := unary_negB
  obtain ⟨F, hF⟩ : ∃ F, F = asinF (cl x) := ⟨_, rfl⟩
  rw [← hF]
  have HF : Hid (F = asinF (cl x)) := hF
  clear hF
  go_enter Ybad.func23, Ybad.ntmps23
  go_wp2_with (first | (rw [fop_guard]; first | (refine law_fadd (by rfl) (by rfl) ?_; intro r n hr lr) | (refine law_fsub (by rfl) (by rfl) ?_; intro r n hr lr) | (refine law_fmul (by rfl) (by rfl) ?_; intro r n hr lr) | (refine law_fquo (by rfl) (by rfl) ?_; intro r n hr lr)) | (go_at_call 27; refine (nan_any _).mono ?_; rintro e w' ⟨rfl, rfl⟩) | (go_at_call 16; refine (sqrt_any _ _).mono ?_; rintro e w' ⟨r, n, rfl, hr, lr, rfl⟩; have hr' : Hid (_ = _) := hr; clear hr) | (go_at_call 29; refine (satan_any _ _).mono ?_; rintro e w' ⟨r, n, rfl, hr, lr, rfl⟩; have hr' : Hid (_ = _) := hr; clear hr))
  go_ret
  refine ⟨_, 0, rfl, ?_, by decide, rfl⟩
  rw [HF.out, cl_nan_const]
  unfold asinF
  simp only [h0, hn, if_true, Bool.false_eq_true, if_false, ← cl_negB hx, h1]

set_option maxHeartbeats 1000000 in
theorem asin_n2 (x : Nat) (hx : x < 2 ^ 64) (w : World) (h0 : (ford (cl x) (cl 0) == some .eq) = false) (hn : (ford (cl x) (cl 0) == some .lt) = true)
    (h1 : (ford (cl (negB x)) (cl 4607182418800017408) == some .gt) = false)
    (h2 : (ford (cl (negB x)) (cl 4604480259023595110) == some .gt) = true) :
    Calls Ybad.prog 23 #[.float .f64 x] w fun e w' => FlRes w (asinF (cl x)) e w' := by
  have o0 : FloatKind.f64.format.order x 0 = ford (cl x) (cl 0) := order_cl _ _
  have o1 : FloatKind.f64.format.order (negB x) 4607182418800017408 = ford (cl (negB x)) (cl 4607182418800017408) := order_cl _ _
  have o2 : FloatKind.f64.format.order (negB x) 4604480259023595110 = ford (cl (negB x)) (cl 4604480259023595110) := order_cl _ _
  have on := unary_negB
  obtain ⟨F, hF⟩ : ∃ F, F = asinF (cl x) := ⟨_, rfl⟩
  rw [← hF]
  have HF : Hid (F = asinF (cl x)) := hF
  clear hF
  go_enter Ybad.func23, Ybad.ntmps23
  go_wp2_with (first | (rw [fop_guard]; first | (refine law_fadd (by rfl) (by rfl) ?_; intro r n hr lr) | (refine law_fsub (by rfl) (by rfl) ?_; intro r n hr lr) | (refine law_fmul (by rfl) (by rfl) ?_; intro r n hr lr) | (refine law_fquo (by rfl) (by rfl) ?_; intro r n hr lr)) | (go_at_call 27; refine (nan_any _).mono ?_; rintro e w' ⟨rfl, rfl⟩) | (go_at_call 16; refine (sqrt_any _ _).mono ?_; rintro e w' ⟨r, n, rfl, hr, lr, rfl⟩; have hr' : Hid (_ = _) := hr; clear hr) | (go_at_call 29; refine (satan_any _ _).mono ?_; rintro e w' ⟨r, n, rfl, hr, lr, rfl⟩; have hr' : Hid (_ = _) := hr; clear hr))
  go_ret
  refine ⟨_, _, rfl, ?_, negB_lt lr, rfl⟩
  rw [HF.out]
  unfold asinF Hid at *
  rw [cl_negB lr]
  simp only [h0, hn, if_true, Bool.false_eq_true, if_false, ← cl_negB hx, h1, h2, *]

set_option maxHeartbeats 1000000 in
theorem asin_n3 (x : Nat) (hx : x < 2 ^ 64) (w : World) (h0 : (ford (cl x) (cl 0) == some .eq) = false) (hn : (ford (cl x) (cl 0) == some .lt) = true)
    (h1 : (ford (cl (negB x)) (cl 4607182418800017408) == some .gt) = false)
    (h2 : (ford (cl (negB x)) (cl 4604480259023595110) == some .gt) = false) :
    Calls Ybad.prog 23 #[.float .f64 x] w fun e w' => FlRes w (asinF (cl x)) e w' := by
  have o0 : FloatKind.f64.format.order x 0 = ford (cl x) (cl 0) := order_cl _ _
  have o1 : FloatKind.f64.format.order (negB x) 4607182418800017408 = ford (cl (negB x)) (cl 4607182418800017408) := order_cl _ _
  have o2 : FloatKind.f64.format.order (negB x) 4604480259023595110 = ford (cl (negB x)) (cl 4604480259023595110) := order_cl _ _
  have on := unary_negB
  obtain ⟨F, hF⟩ : ∃ F, F = asinF (cl x) := ⟨_, rfl⟩
  rw [← hF]
  have HF : Hid (F = asinF (cl x)) := hF
  clear hF
  go_enter Ybad.func23, Ybad.ntmps23
  go_wp2_with (first | (rw [fop_guard]; first | (refine law_fadd (by rfl) (by rfl) ?_; intro r n hr lr) | (refine law_fsub (by rfl) (by rfl) ?_; intro r n hr lr) | (refine law_fmul (by rfl) (by rfl) ?_; intro r n hr lr) | (refine law_fquo (by rfl) (by rfl) ?_; intro r n hr lr)) | (go_at_call 27; refine (nan_any _).mono ?_; rintro e w' ⟨rfl, rfl⟩) | (go_at_call 16; refine (sqrt_any _ _).mono ?_; rintro e w' ⟨r, n, rfl, hr, lr, rfl⟩; have hr' : Hid (_ = _) := hr; clear hr) | (go_at_call 29; refine (satan_any _ _).mono ?_; rintro e w' ⟨r, n, rfl, hr, lr, rfl⟩; have hr' : Hid (_ = _) := hr; clear hr))
  go_ret
  refine ⟨_, _, rfl, ?_, negB_lt lr, rfl⟩
  rw [HF.out]
  unfold asinF Hid at *
  rw [cl_negB lr]
  simp only [h0, hn, if_true, Bool.false_eq_true, if_false, ← cl_negB hx, h1, h2, *]

set_option maxHeartbeats 1000000 in
theorem asin_p1 (x : Nat) (hx : x < 2 ^ 64) (w : World) (h0 : (ford (cl x) (cl 0) == some .eq) = false) (hn : (ford (cl x) (cl 0) == some .lt) = false)
    (h1 : (ford (cl x) (cl 4607182418800017408) == some .gt) = true) :
    Calls Ybad.prog 23 #[.float .f64 x] w fun e w' => FlRes w (asinF (cl x)) e w' := by
  have o0 : FloatKind.f64.format.order x 0 = ford (cl x) (cl 0) := order_cl _ _
  have o1 : FloatKind.f64.format.order x 4607182418800017408 = ford (cl x) (cl 4607182418800017408) := order_cl _ _
  have o2 : FloatKind.f64.format.order x 4604480259023595110 = ford (cl x) (cl 4604480259023595110) := order_cl _ _
  have on := unary_negB
  obtain ⟨F, hF⟩ : ∃ F, F = asinF (cl x) := ⟨_, rfl⟩
  rw [← hF]
  have HF : Hid (F = asinF (cl x)) := hF
  clear hF
  go_enter Ybad.func23, Ybad.ntmps23
  go_wp2_with (first | (rw [fop_guard]; first | (refine law_fadd (by rfl) (by rfl) ?_; intro r n hr lr) | (refine law_fsub (by rfl) (by rfl) ?_; intro r n hr lr) | (refine law_fmul (by rfl) (by rfl) ?_; intro r n hr lr) | (refine law_fquo (by rfl) (by rfl) ?_; intro r n hr lr)) | (go_at_call 27; refine (nan_any _).mono ?_; rintro e w' ⟨rfl, rfl⟩) | (go_at_call 16; refine (sqrt_any _ _).mono ?_; rintro e w' ⟨r, n, rfl, hr, lr, rfl⟩; have hr' : Hid (_ = _) := hr; clear hr) | (go_at_call 29; refine (satan_any _ _).mono ?_; rintro e w' ⟨r, n, rfl, hr, lr, rfl⟩; have hr' : Hid (_ = _) := hr; clear hr))
  go_ret
  refine ⟨_, 0, rfl, ?_, by decide, rfl⟩
  rw [HF.out, cl_nan_const]
  unfold asinF
  simp only [h0, hn, Bool.false_eq_true, if_false, h1, if_true]

set_option maxHeartbeats 1000000 in
theorem asin_p2 (x : Nat) (hx : x < 2 ^ 64) (w : World) (h0 : (ford (cl x) (cl 0) == some .eq) = false) (hn : (ford (cl x) (cl 0) == some .lt) = false)
    (h1 : (ford (cl x) (cl 4607182418800017408) == some .gt) = false)
    (h2 : (ford (cl x) (cl 4604480259023595110) == some .gt) = true) :
    Calls Ybad.prog 23 #[.float .f64 x] w fun e w' => FlRes w (asinF (cl x)) e w' := by
  have o0 : FloatKind.f64.format.order x 0 = ford (cl x) (cl 0) := order_cl _ _
  have o1 : FloatKind.f64.format.order x 4607182418800017408 = ford (cl x) (cl 4607182418800017408) := order_cl _ _
  have o2 : FloatKind.f64.format.order x 4604480259023595110 = ford (cl x) (cl 4604480259023595110) := order_cl _ _
  have on := unary_negB
  obtain ⟨F, hF⟩ : ∃ F, F = asinF (cl x) := ⟨_, rfl⟩
  rw [← hF]
  have HF : Hid (F = asinF (cl x)) := hF
  clear hF
  go_enter Ybad.func23, Ybad.ntmps23
  go_wp2_with (first | (rw [fop_guard]; first | (refine law_fadd (by rfl) (by rfl) ?_; intro r n hr lr) | (refine law_fsub (by rfl) (by rfl) ?_; intro r n hr lr) | (refine law_fmul (by rfl) (by rfl) ?_; intro r n hr lr) | (refine law_fquo (by rfl) (by rfl) ?_; intro r n hr lr)) | (go_at_call 27; refine (nan_any _).mono ?_; rintro e w' ⟨rfl, rfl⟩) | (go_at_call 16; refine (sqrt_any _ _).mono ?_; rintro e w' ⟨r, n, rfl, hr, lr, rfl⟩; have hr' : Hid (_ = _) := hr; clear hr) | (go_at_call 29; refine (satan_any _ _).mono ?_; rintro e w' ⟨r, n, rfl, hr, lr, rfl⟩; have hr' : Hid (_ = _) := hr; clear hr))
  go_ret
  refine ⟨_, _, rfl, ?_, lr, rfl⟩
  rw [HF.out]
  unfold asinF Hid at *
  simp only [h0, hn, if_true, Bool.false_eq_true, if_false, h1, h2, *]

set_option maxHeartbeats 1000000 in
theorem asin_p3 (x : Nat) (hx : x < 2 ^ 64) (w : World) (h0 : (ford (cl x) (cl 0) == some .eq) = false) (hn : (ford (cl x) (cl 0) == some .lt) = false)
    (h1 : (ford (cl x) (cl 4607182418800017408) == some .gt) = false)
    (h2 : (ford (cl x) (cl 4604480259023595110) == some .gt) = false) :
    Calls Ybad.prog 23 #[.float .f64 x] w fun e w' => FlRes w (asinF (cl x)) e w' := by
  have o0 : FloatKind.f64.format.order x 0 = ford (cl x) (cl 0) := order_cl _ _
  have o1 : FloatKind.f64.format.order x 4607182418800017408 = ford (cl x) (cl 4607182418800017408) := order_cl _ _
  have o2 : FloatKind.f64.format.order x 4604480259023595110 = ford (cl x) (cl 4604480259023595110) := order_cl _ _
  have on := unary_negB
  obtain ⟨F, hF⟩ : ∃ F, F = asinF (cl x) := ⟨_, rfl⟩
  rw [← hF]
  have HF : Hid (F = asinF (cl x)) := hF
  clear hF
  go_enter Ybad.func23, Ybad.ntmps23
  go_wp2_with (first | (rw [fop_guard]; first | (refine law_fadd (by rfl) (by rfl) ?_; intro r n hr lr) | (refine law_fsub (by rfl) (by rfl) ?_; intro r n hr lr) | (refine law_fmul (by rfl) (by rfl) ?_; intro r n hr lr) | (refine law_fquo (by rfl) (by rfl) ?_; intro r n hr lr)) | (go_at_call 27; refine (nan_any _).mono ?_; rintro e w' ⟨rfl, rfl⟩) | (go_at_call 16; refine (sqrt_any _ _).mono ?_; rintro e w' ⟨r, n, rfl, hr, lr, rfl⟩; have hr' : Hid (_ = _) := hr; clear hr) | (go_at_call 29; refine (satan_any _ _).mono ?_; rintro e w' ⟨r, n, rfl, hr, lr, rfl⟩; have hr' : Hid (_ = _) := hr; clear hr))
  go_ret
  refine ⟨_, _, rfl, ?_, lr, rfl⟩
  rw [HF.out]
  unfold asinF Hid at *
  simp only [h0, hn, if_true, Bool.false_eq_true, if_false, h1, h2, *]

set_option maxHeartbeats 400000 in
theorem asin_0 (x : Nat) (hx : x < 2 ^ 64) (w : World) (h0 : (ford (cl x) (cl 0) == some .eq) = true) :
    Calls Ybad.prog 23 #[.float .f64 x] w fun e w' => FlRes w (asinF (cl x)) e w' := by
  have o0 : FloatKind.f64.format.order x 0 = ford (cl x) (cl 0) := order_cl _ _
  have HF : asinF (cl x) = cl x := by unfold asinF; rw [if_pos h0]
  rw [HF]
  clear HF
  go_enter Ybad.func23, Ybad.ntmps23
  go_wp2
  go_ret
  exact ⟨x, 0, rfl, rfl, hx, rfl⟩

theorem asin_any (x : Nat) (hx : x < 2 ^ 64) (w : World) : Calls Ybad.prog 23 #[.float .f64 x] w fun e w' => FlRes w (asinF (cl x)) e w' := by
  cases h0 : (ford (cl x) (cl 0) == some .eq)
  · cases hn : (ford (cl x) (cl 0) == some .lt)
    · cases h1 : (ford (cl x) (cl 4607182418800017408) == some .gt)
      · cases h2 : (ford (cl x) (cl 4604480259023595110) == some .gt)
        · exact asin_p3 x hx w h0 hn h1 h2
        · exact asin_p2 x hx w h0 hn h1 h2
      · exact asin_p1 x hx w h0 hn h1
    · cases h1 : (ford (cl (negB x)) (cl 4607182418800017408) == some .gt)
      · cases h2 : (ford (cl (negB x)) (cl 4604480259023595110) == some .gt)
        · exact asin_n3 x hx w h0 hn h1 h2
        · exact asin_n2 x hx w h0 hn h1 h2
      · exact asin_n1 x hx w h0 hn h1
  · exact asin_0 x hx w h0

set_option maxHeartbeats 400000 in
theorem Asin_any (x : Nat) (hx : x < 2 ^ 64) (w : World) : Calls Ybad.prog 15 #[.float .f64 x] w fun e w' => FlRes w (asinF (cl x)) e w' := by
  go_enter Ybad.func15, Ybad.ntmps15
  go_wp2_with (go_at_call 23; refine (asin_any _ hx _).mono ?_; rintro e w' ⟨r, n, rfl, hr, lr, rfl⟩; have hr' : Hid (_ = _) := hr; clear hr)
  go_ret
  exact ⟨r, _, rfl, hr'.out, lr, rfl⟩
end Go.Proofs.YbulkcivsDoor
