import Derived.Test.YbulkcivsDoorDB
namespace Go.Proofs.YbulkcivsDoor
open Go.RowKit
set_option linter.unusedVariables false
set_option linter.unusedSimpArgs false

/-- A distance: SOME word of this class; nothing old is written. -/
def KmRes (w : World) (F : Option Nat) (e : Ending) (w' : World) : Prop := ∃ r, e = .returned (.float .f64 r) ∧ cl r = F ∧ r < 2 ^ 64 ∧ Below w.heap.size w w'

theorem tabs_below {w W : World} (h : Below w.heap.size w W) (hT : Tabs w) : Tabs W :=
  ⟨fun i hi => cell_later h (hT.1 i hi), fun i hi => cell_later h (hT.2.1 i hi), fun i hi => cell_later h (hT.2.2 i hi)⟩

/-- What region 2 of distanceKm leaves: A, B: the classes of the latitudes in radians; D, E: of the two arguments of Sin; S1, S2: of its answers. -/
def R2 (Bk Oa Ob : Nat) (A B : Option Nat) (S1 S2 : Option Nat) : Nat → Value → Prop
  | 0 => FV B
  | 1 => FV A
  | 2 => FV (fsub B A)
  | 3 => FV (fdiv (fsub B A) (cl twoC))
  | 4 => FV S1
  | 5 => fun v => v = .pointer (some ⟨Bk + 1, 1, none⟩)
  | 6 => fun v => v = .float .f64 Ob
  | 7 => fun v => v = .pointer (some ⟨Bk, 1, none⟩)
  | 8 => fun v => v = .float .f64 Oa
  | 9 => FV (fsub (cl Ob) (cl Oa))
  | 10 => FV (fmul (fsub (cl Ob) (cl Oa)) (cl radC))
  | 11 => FV (fdiv (fmul (fsub (cl Ob) (cl Oa)) (cl radC)) (cl twoC))
  | 12 => FV S2
  | 13 => FV S1
  | _ => FV S2

set_option maxRecDepth 100000 in
set_option maxHeartbeats 4000000 in
theorem dist_walk (La Oa Lb Ob : Nat) (S1 S2 C1 C2 : Option Nat)
    (hS1 : SinTo (fdiv (fsub (fmul (cl Lb) (cl radC)) (fmul (cl La) (cl radC))) (cl twoC)) S1) (hS2 : SinTo (fdiv (fmul (fsub (cl Ob) (cl Oa)) (cl radC)) (cl twoC)) S2)
    (hC1 : CosTo (fmul (cl La) (cl radC)) C1) (hC2 : CosTo (fmul (cl Lb) (cl radC)) C2) (w : World) (hT : Tabs w) :
    Calls Ybad.prog 9 #[.agg #[.float .f64 La, .float .f64 Oa], .agg #[.float .f64 Lb, .float .f64 Ob]] w fun e w' => ∃ r, e = .returned (.float .f64 r) ∧ cl r = kmF S1 S2 C1 C2 ∧ r < 2 ^ 64 ∧ Below w.heap.size w w' := by
  have HP : Hid (∀ (e : Ending) (w' : World), (∃ r, e = .returned (.float .f64 r) ∧ cl r = kmF S1 S2 C1 C2 ∧ r < 2 ^ 64 ∧ Below w.heap.size w w') → KmRes w (kmF S1 S2 C1 C2) e w') := fun e w' h => h
  have HQ : Calls Ybad.prog 9 #[.agg #[.float .f64 La, .float .f64 Oa], .agg #[.float .f64 Lb, .float .f64 Ob]] w fun e w' => KmRes w (kmF S1 S2 C1 C2) e w' := by
    clear HP
    obtain ⟨F, hF⟩ : ∃ F, F = kmF S1 S2 C1 C2 := ⟨_, rfl⟩
    rw [← hF]
    have HF : Hid (F = kmF S1 S2 C1 C2) := hF
    have H1 : Hid (SinTo (fdiv (fsub (fmul (cl Lb) (cl radC)) (fmul (cl La) (cl radC))) (cl twoC)) S1) := hS1
    have H2 : Hid (SinTo (fdiv (fmul (fsub (cl Ob) (cl Oa)) (cl radC)) (cl twoC)) S2) := hS2
    have H3 : Hid (CosTo (fmul (cl La) (cl radC)) C1) := hC1
    have H4 : Hid (CosTo (fmul (cl Lb) (cl radC)) C2) := hC2
    have HT : Hid (Tabs w) := hT
    clear hF hS1 hS2 hC1 hC2 hT
    go_enter Ybad.func9, Ybad.ntmps9
    go_wp2
    obtain ⟨W, hW⟩ : ∃ W, W = (w.alloc (Obj.cells #[.float .f64 La, .float .f64 Oa] 36)).alloc (Obj.cells #[.float .f64 Lb, .float .f64 Ob] 36) := ⟨_, rfl⟩
    rw [← hW]
    have hbel : Below w.heap.size w W := by rw [hW]; exact ((Below.refl _ _).alloc (Nat.le_refl _) _).alloc (by simp) _
    have ha0 : W.heap[w.heap.size]? = some (.cells #[.float .f64 La, .float .f64 Oa] 36 (0, 0)) := by
      rw [hW, Below.heap_alloc _ _ _ (by simp)]; exact heap_alloc_new w _
    have hb0 : W.heap[w.heap.size + 1]? = some (.cells #[.float .f64 Lb, .float .f64 Ob] 36 (0, 0)) := by
      have := heap_alloc_new (w.alloc (Obj.cells #[.float .f64 La, .float .f64 Oa] 36)) (Obj.cells #[.float .f64 Lb, .float .f64 Ob] 36)
      rw [show (w.alloc (Obj.cells #[.float .f64 La, .float .f64 Oa] 36)).heap.size = w.heap.size + 1 by simp] at this
      rw [hW]; exact this
    have ca0 : W.cell? ⟨w.heap.size, 0, none⟩ = some (.float .f64 La) := cell_of_row W _ 0 _ _ _ ha0
    have ca1 : W.cell? ⟨w.heap.size, 1, none⟩ = some (.float .f64 Oa) := cell_of_row W _ 1 _ _ _ ha0
    have cb0 : W.cell? ⟨w.heap.size + 1, 0, none⟩ = some (.float .f64 Lb) := cell_of_row W _ 0 _ _ _ hb0
    have cb1 : W.cell? ⟨w.heap.size + 1, 1, none⟩ = some (.float .f64 Ob) := cell_of_row W _ 1 _ _ _ hb0
    have HTW : Hid (Tabs W) := tabs_below hbel HT.out
    clear hW ha0 hb0 HT
    have hcls : ∀ n, ∃ m, (W.drewN n) = W.drewN m := fun n => ⟨n, rfl⟩
    refine wp_region_obs (C := fun w' => ∃ n, w' = W.drewN n) (R := R1 w.heap.size La Lb) (by kernel_rfl) (by kernel_rfl) ⟨1, rfl⟩ ⟨?o0, ?o1, ?o2, ?o3, ?o4, ?o5, ?o6, ?o7, trivial⟩ ?fin
    case o0 =>
      rintro a w' hp ⟨n, rfl⟩
      exact LUpon_field ⟨n, rfl⟩ (hp.rest 2 (by kernel_rfl)) (.inl rfl) rfl
    case o1 =>
      rintro a w' hp ⟨n, rfl⟩
      exact LUpon_load ⟨n, rfl⟩ (hp.on ⟨0, .data⟩ (by simp) rfl _ 10 rfl rfl) ca0 rfl
    case o2 =>
      rintro a w' hp ⟨n, rfl⟩
      exact LUpon_mul (fun m => ⟨n + m, by rw [World.drewN_drewN]⟩) (hp.on ⟨1, .data⟩ (by simp) rfl _ 11 rfl rfl) rfl rfl
    case o3 =>
      rintro a w' hp ⟨n, rfl⟩
      exact LUpon_field ⟨n, rfl⟩ (hp.rest 3 (by kernel_rfl)) (.inl rfl) rfl
    case o4 =>
      rintro a w' hp ⟨n, rfl⟩
      exact LUpon_load ⟨n, rfl⟩ (hp.on ⟨3, .data⟩ (by simp) rfl _ 13 rfl rfl) cb0 rfl
    case o5 =>
      rintro a w' hp ⟨n, rfl⟩
      exact LUpon_mul (fun m => ⟨n + m, by rw [World.drewN_drewN]⟩) (hp.on ⟨4, .data⟩ (by simp) rfl _ 14 rfl rfl) rfl rfl
    case o6 =>
      rintro a w' hp ⟨n, rfl⟩
      exact LUpon_assign ⟨n, rfl⟩ (hp.on ⟨2, .data⟩ (by simp) rfl _ 12 rfl rfl)
    case o7 =>
      rintro a w' hp ⟨n, rfl⟩
      exact LUpon_assign ⟨n, rfl⟩ (hp.on ⟨5, .data⟩ (by simp) rfl _ 15 rfl rfl)
    case fin =>
      rintro a w' he ⟨n, rfl⟩
      have e0 : a.tmps.getD 0 undef = .agg #[.float .f64 La, .float .f64 Oa] := he.rest 0 (by kernel_rfl)
      have e1 : a.tmps.getD 1 undef = .agg #[.float .f64 Lb, .float .f64 Ob] := he.rest 1 (by kernel_rfl)
      have e2 : a.tmps.getD 2 undef = .pointer (some ⟨w.heap.size, 0, none⟩) := he.rest 2 (by kernel_rfl)
      have e3 : a.tmps.getD 3 undef = .pointer (some ⟨w.heap.size + 1, 0, none⟩) := he.rest 3 (by kernel_rfl)
      have e4 : a.tmps.getD 4 undef = .float .f64 0 := he.rest 4 (by kernel_rfl)
      obtain ⟨r5, e5, c5, l5⟩ := he.done 6 _ 5 rfl rfl
      have q5 : Hid (cl r5 = fmul (cl La) (cl radC)) := c5
      clear c5
      obtain ⟨r6, e6, c6, l6⟩ := he.done 7 _ 6 rfl rfl
      have q6 : Hid (cl r6 = fmul (cl Lb) (cl radC)) := c6
      clear c6
      have e7 : a.tmps.getD 7 undef = undef := he.rest 7 (by kernel_rfl)
      have e8 : a.tmps.getD 8 undef = undef := he.rest 8 (by kernel_rfl)
      have e9 : a.tmps.getD 9 undef = undef := he.rest 9 (by kernel_rfl)
      have e10 : a.tmps.getD 10 undef = .pointer (some ⟨w.heap.size, 0, none⟩) := he.done 0 _ 10 rfl rfl
      have e11 : a.tmps.getD 11 undef = .float .f64 La := he.done 1 _ 11 rfl rfl
      obtain ⟨r12, e12, c12, l12⟩ := he.done 2 _ 12 rfl rfl
      have q12 : Hid (cl r12 = fmul (cl La) (cl radC)) := c12
      clear c12
      have e13 : a.tmps.getD 13 undef = .pointer (some ⟨w.heap.size + 1, 0, none⟩) := he.done 3 _ 13 rfl rfl
      have e14 : a.tmps.getD 14 undef = .float .f64 Lb := he.done 4 _ 14 rfl rfl
      obtain ⟨r15, e15, c15, l15⟩ := he.done 5 _ 15 rfl rfl
      have q15 : Hid (cl r15 = fmul (cl Lb) (cl radC)) := c15
      clear c15
      have e16 : a.tmps.getD 16 undef = undef := he.rest 16 (by kernel_rfl)
      have e17 : a.tmps.getD 17 undef = undef := he.rest 17 (by kernel_rfl)
      have e18 : a.tmps.getD 18 undef = undef := he.rest 18 (by kernel_rfl)
      have e19 : a.tmps.getD 19 undef = undef := he.rest 19 (by kernel_rfl)
      have e20 : a.tmps.getD 20 undef = undef := he.rest 20 (by kernel_rfl)
      have e21 : a.tmps.getD 21 undef = undef := he.rest 21 (by kernel_rfl)
      have e22 : a.tmps.getD 22 undef = undef := he.rest 22 (by kernel_rfl)
      have e23 : a.tmps.getD 23 undef = undef := he.rest 23 (by kernel_rfl)
      have e24 : a.tmps.getD 24 undef = undef := he.rest 24 (by kernel_rfl)
      have e25 : a.tmps.getD 25 undef = undef := he.rest 25 (by kernel_rfl)
      have e26 : a.tmps.getD 26 undef = undef := he.rest 26 (by kernel_rfl)
      have e27 : a.tmps.getD 27 undef = undef := he.rest 27 (by kernel_rfl)
      have e28 : a.tmps.getD 28 undef = undef := he.rest 28 (by kernel_rfl)
      have e29 : a.tmps.getD 29 undef = undef := he.rest 29 (by kernel_rfl)
      have e30 : a.tmps.getD 30 undef = undef := he.rest 30 (by kernel_rfl)
      have e31 : a.tmps.getD 31 undef = undef := he.rest 31 (by kernel_rfl)
      have e32 : a.tmps.getD 32 undef = undef := he.rest 32 (by kernel_rfl)
      have e33 : a.tmps.getD 33 undef = undef := he.rest 33 (by kernel_rfl)
      have e34 : a.tmps.getD 34 undef = undef := he.rest 34 (by kernel_rfl)
      have e35 : a.tmps.getD 35 undef = undef := he.rest 35 (by kernel_rfl)
      have e36 : a.tmps.getD 36 undef = undef := he.rest 36 (by kernel_rfl)
      have e37 : a.tmps.getD 37 undef = undef := he.rest 37 (by kernel_rfl)
      have e38 : a.tmps.getD 38 undef = undef := he.rest 38 (by kernel_rfl)
      have e39 : a.tmps.getD 39 undef = undef := he.rest 39 (by kernel_rfl)
      have e40 : a.tmps.getD 40 undef = undef := he.rest 40 (by kernel_rfl)
      have e41 : a.tmps.getD 41 undef = undef := he.rest 41 (by kernel_rfl)
      have e42 : a.tmps.getD 42 undef = undef := he.rest 42 (by kernel_rfl)
      have e43 : a.tmps.getD 43 undef = undef := he.rest 43 (by kernel_rfl)
      have e44 : a.tmps.getD 44 undef = undef := he.rest 44 (by kernel_rfl)
      have e45 : a.tmps.getD 45 undef = undef := he.rest 45 (by kernel_rfl)
      have e46 : a.tmps.getD 46 undef = undef := he.rest 46 (by kernel_rfl)
      have ht := arr47 a.tmps he.size
      rw [e0, e1, e2, e3, e4, e5, e6, e7, e8, e9, e10, e11, e12, e13, e14, e15, e16, e17, e18, e19, e20, e21, e22, e23, e24, e25, e26, e27, e28, e29, e30, e31, e32, e33, e34, e35, e36, e37, e38, e39, e40, e41, e42, e43, e44, e45, e46] at ht
      have hd := he.defers
      clear he e0 e1 e2 e3 e4 e5 e6 e7 e8 e9 e10 e11 e12 e13 e14 e15 e16 e17 e18 e19 e20 e21 e22 e23 e24 e25 e26 e27 e28 e29 e30 e31 e32 e33 e34 e35 e36 e37 e38 e39 e40 e41 e42 e43 e44 e45 e46
      obtain ⟨t, df⟩ := a
      simp only at ht hd
      subst ht hd
      go_wp2
      have HTn : Hid (Tabs (W.drewN n)) := HTW.out.drewN n
      refine wp_region_obs (C := fun w' => ∃ m, w' = W.drewN m) (R := R2 w.heap.size Oa Ob (fmul (cl La) (cl radC)) (fmul (cl Lb) (cl radC)) S1 S2) (by kernel_rfl) (by kernel_rfl) ⟨n + 1, rfl⟩ ⟨?p0, ?p1, ?p2, ?p3, ?p4, ?p5, ?p6, ?p7, ?p8, ?p9, ?p10, ?p11, ?p12, ?p13, ?p14, trivial⟩ ?fin2
      case p0 =>
        rintro a w' hp ⟨m, rfl⟩
        exact LUpon_move ⟨m, rfl⟩ (show FV _ _ from by rw [show a.eval (.tmp 6) = .float .f64 r6 from hp.rest 6 (by kernel_rfl)]; exact ⟨r6, rfl, q6.out, l6⟩)
      case p1 =>
        rintro a w' hp ⟨m, rfl⟩
        exact LUpon_move ⟨m, rfl⟩ (show FV _ _ from by rw [show a.eval (.tmp 5) = .float .f64 r5 from hp.rest 5 (by kernel_rfl)]; exact ⟨r5, rfl, q5.out, l5⟩)
      case p2 =>
        rintro a w' hp ⟨m, rfl⟩
        obtain ⟨x, ex, cx, lx⟩ : FV (fmul (cl Lb) (cl radC)) _ := hp.on ⟨0, .data⟩ (by simp) rfl _ 16 rfl rfl
        obtain ⟨y, ey, cy, ly⟩ : FV (fmul (cl La) (cl radC)) _ := hp.on ⟨1, .data⟩ (by simp) rfl _ 17 rfl rfl
        exact LUpon_sub (fun k => ⟨m + k, by rw [World.drewN_drewN]⟩) ex ey (by rw [cx, cy])
      case p3 =>
        rintro a w' hp ⟨m, rfl⟩
        obtain ⟨x, ex, cx, lx⟩ : FV (fsub (fmul (cl Lb) (cl radC)) (fmul (cl La) (cl radC))) _ := hp.on ⟨2, .data⟩ (by simp) rfl _ 18 rfl rfl
        exact LUpon_quo (fun k => ⟨m + k, by rw [World.drewN_drewN]⟩) ex rfl (by rw [cx]; rfl)
      case p4 =>
        rintro a w' hp ⟨m, rfl⟩
        obtain ⟨x, ex, cx, lx⟩ : FV (fdiv (fsub (fmul (cl Lb) (cl radC)) (fmul (cl La) (cl radC))) (cl twoC)) _ := hp.on ⟨3, .data⟩ (by simp) rfl _ 19 rfl rfl
        exact LUpon_call (fun k => ⟨m + k, by rw [World.drewN_drewN]⟩) ex (H1.out x _ lx cx (HTW.out.drewN m)) (fun v hv => hv)
      case p5 =>
        rintro a w' hp ⟨m, rfl⟩
        exact LUpon_field ⟨m, rfl⟩ (hp.rest 3 (by kernel_rfl)) (.inr rfl) rfl
      case p6 =>
        rintro a w' hp ⟨m, rfl⟩
        exact LUpon_load ⟨m, rfl⟩ (hp.on ⟨5, .data⟩ (by simp) rfl _ 21 rfl rfl) cb1 rfl
      case p7 =>
        rintro a w' hp ⟨m, rfl⟩
        exact LUpon_field ⟨m, rfl⟩ (hp.rest 2 (by kernel_rfl)) (.inr rfl) rfl
      case p8 =>
        rintro a w' hp ⟨m, rfl⟩
        exact LUpon_load ⟨m, rfl⟩ (hp.on ⟨7, .data⟩ (by simp) rfl _ 23 rfl rfl) ca1 rfl
      case p9 =>
        rintro a w' hp ⟨m, rfl⟩
        exact LUpon_sub (fun k => ⟨m + k, by rw [World.drewN_drewN]⟩) (hp.on ⟨6, .data⟩ (by simp) rfl _ 22 rfl rfl) (hp.on ⟨8, .data⟩ (by simp) rfl _ 24 rfl rfl) rfl
      case p10 =>
        rintro a w' hp ⟨m, rfl⟩
        obtain ⟨x, ex, cx, lx⟩ : FV (fsub (cl Ob) (cl Oa)) _ := hp.on ⟨9, .data⟩ (by simp) rfl _ 25 rfl rfl
        exact LUpon_mul (fun k => ⟨m + k, by rw [World.drewN_drewN]⟩) ex rfl (by rw [cx]; rfl)
      case p11 =>
        rintro a w' hp ⟨m, rfl⟩
        obtain ⟨x, ex, cx, lx⟩ : FV (fmul (fsub (cl Ob) (cl Oa)) (cl radC)) _ := hp.on ⟨10, .data⟩ (by simp) rfl _ 26 rfl rfl
        exact LUpon_quo (fun k => ⟨m + k, by rw [World.drewN_drewN]⟩) ex rfl (by rw [cx]; rfl)
      case p12 =>
        rintro a w' hp ⟨m, rfl⟩
        obtain ⟨x, ex, cx, lx⟩ : FV (fdiv (fmul (fsub (cl Ob) (cl Oa)) (cl radC)) (cl twoC)) _ := hp.on ⟨11, .data⟩ (by simp) rfl _ 27 rfl rfl
        exact LUpon_call (fun k => ⟨m + k, by rw [World.drewN_drewN]⟩) ex (H2.out x _ lx cx (HTW.out.drewN m)) (fun v hv => hv)
      case p13 =>
        rintro a w' hp ⟨m, rfl⟩
        exact LUpon_assign ⟨m, rfl⟩ (hp.on ⟨4, .data⟩ (by simp) rfl _ 20 rfl rfl)
      case p14 =>
        rintro a w' hp ⟨m, rfl⟩
        exact LUpon_assign ⟨m, rfl⟩ (hp.on ⟨12, .data⟩ (by simp) rfl _ 28 rfl rfl)
      case fin2 =>
        rintro a w' he ⟨m, rfl⟩
        have e0 : a.tmps.getD 0 undef = .agg #[.float .f64 La, .float .f64 Oa] := he.rest 0 (by kernel_rfl)
        have e1 : a.tmps.getD 1 undef = .agg #[.float .f64 Lb, .float .f64 Ob] := he.rest 1 (by kernel_rfl)
        have e2 : a.tmps.getD 2 undef = .pointer (some ⟨w.heap.size, 0, none⟩) := he.rest 2 (by kernel_rfl)
        have e3 : a.tmps.getD 3 undef = .pointer (some ⟨w.heap.size + 1, 0, none⟩) := he.rest 3 (by kernel_rfl)
        have e4 : a.tmps.getD 4 undef = .float .f64 0 := he.rest 4 (by kernel_rfl)
        have e5 : a.tmps.getD 5 undef = .float .f64 r5 := he.rest 5 (by kernel_rfl)
        have e6 : a.tmps.getD 6 undef = .float .f64 r6 := he.rest 6 (by kernel_rfl)
        obtain ⟨r7, e7, c7, l7⟩ := he.done 13 _ 7 rfl rfl
        have q7 : Hid (cl r7 = S1) := c7
        clear c7
        obtain ⟨r8, e8, c8, l8⟩ := he.done 14 _ 8 rfl rfl
        have q8 : Hid (cl r8 = S2) := c8
        clear c8
        have e9 : a.tmps.getD 9 undef = undef := he.rest 9 (by kernel_rfl)
        have e10 : a.tmps.getD 10 undef = .pointer (some ⟨w.heap.size, 0, none⟩) := he.rest 10 (by kernel_rfl)
        have e11 : a.tmps.getD 11 undef = .float .f64 La := he.rest 11 (by kernel_rfl)
        have e12 : a.tmps.getD 12 undef = .float .f64 r12 := he.rest 12 (by kernel_rfl)
        have e13 : a.tmps.getD 13 undef = .pointer (some ⟨w.heap.size + 1, 0, none⟩) := he.rest 13 (by kernel_rfl)
        have e14 : a.tmps.getD 14 undef = .float .f64 Lb := he.rest 14 (by kernel_rfl)
        have e15 : a.tmps.getD 15 undef = .float .f64 r15 := he.rest 15 (by kernel_rfl)
        obtain ⟨r16, e16, c16, l16⟩ := he.done 0 _ 16 rfl rfl
        have q16 : Hid (cl r16 = fmul (cl Lb) (cl radC)) := c16
        clear c16
        obtain ⟨r17, e17, c17, l17⟩ := he.done 1 _ 17 rfl rfl
        have q17 : Hid (cl r17 = fmul (cl La) (cl radC)) := c17
        clear c17
        obtain ⟨r18, e18, c18, l18⟩ := he.done 2 _ 18 rfl rfl
        have q18 : Hid (cl r18 = fsub (fmul (cl Lb) (cl radC)) (fmul (cl La) (cl radC))) := c18
        clear c18
        obtain ⟨r19, e19, c19, l19⟩ := he.done 3 _ 19 rfl rfl
        have q19 : Hid (cl r19 = fdiv (fsub (fmul (cl Lb) (cl radC)) (fmul (cl La) (cl radC))) (cl twoC)) := c19
        clear c19
        obtain ⟨r20, e20, c20, l20⟩ := he.done 4 _ 20 rfl rfl
        have q20 : Hid (cl r20 = S1) := c20
        clear c20
        have e21 : a.tmps.getD 21 undef = .pointer (some ⟨w.heap.size + 1, 1, none⟩) := he.done 5 _ 21 rfl rfl
        have e22 : a.tmps.getD 22 undef = .float .f64 Ob := he.done 6 _ 22 rfl rfl
        have e23 : a.tmps.getD 23 undef = .pointer (some ⟨w.heap.size, 1, none⟩) := he.done 7 _ 23 rfl rfl
        have e24 : a.tmps.getD 24 undef = .float .f64 Oa := he.done 8 _ 24 rfl rfl
        obtain ⟨r25, e25, c25, l25⟩ := he.done 9 _ 25 rfl rfl
        have q25 : Hid (cl r25 = fsub (cl Ob) (cl Oa)) := c25
        clear c25
        obtain ⟨r26, e26, c26, l26⟩ := he.done 10 _ 26 rfl rfl
        have q26 : Hid (cl r26 = fmul (fsub (cl Ob) (cl Oa)) (cl radC)) := c26
        clear c26
        obtain ⟨r27, e27, c27, l27⟩ := he.done 11 _ 27 rfl rfl
        have q27 : Hid (cl r27 = fdiv (fmul (fsub (cl Ob) (cl Oa)) (cl radC)) (cl twoC)) := c27
        clear c27
        obtain ⟨r28, e28, c28, l28⟩ := he.done 12 _ 28 rfl rfl
        have q28 : Hid (cl r28 = S2) := c28
        clear c28
        have e29 : a.tmps.getD 29 undef = undef := he.rest 29 (by kernel_rfl)
        have e30 : a.tmps.getD 30 undef = undef := he.rest 30 (by kernel_rfl)
        have e31 : a.tmps.getD 31 undef = undef := he.rest 31 (by kernel_rfl)
        have e32 : a.tmps.getD 32 undef = undef := he.rest 32 (by kernel_rfl)
        have e33 : a.tmps.getD 33 undef = undef := he.rest 33 (by kernel_rfl)
        have e34 : a.tmps.getD 34 undef = undef := he.rest 34 (by kernel_rfl)
        have e35 : a.tmps.getD 35 undef = undef := he.rest 35 (by kernel_rfl)
        have e36 : a.tmps.getD 36 undef = undef := he.rest 36 (by kernel_rfl)
        have e37 : a.tmps.getD 37 undef = undef := he.rest 37 (by kernel_rfl)
        have e38 : a.tmps.getD 38 undef = undef := he.rest 38 (by kernel_rfl)
        have e39 : a.tmps.getD 39 undef = undef := he.rest 39 (by kernel_rfl)
        have e40 : a.tmps.getD 40 undef = undef := he.rest 40 (by kernel_rfl)
        have e41 : a.tmps.getD 41 undef = undef := he.rest 41 (by kernel_rfl)
        have e42 : a.tmps.getD 42 undef = undef := he.rest 42 (by kernel_rfl)
        have e43 : a.tmps.getD 43 undef = undef := he.rest 43 (by kernel_rfl)
        have e44 : a.tmps.getD 44 undef = undef := he.rest 44 (by kernel_rfl)
        have e45 : a.tmps.getD 45 undef = undef := he.rest 45 (by kernel_rfl)
        have e46 : a.tmps.getD 46 undef = undef := he.rest 46 (by kernel_rfl)
        have ht := arr47 a.tmps he.size
        rw [e0, e1, e2, e3, e4, e5, e6, e7, e8, e9, e10, e11, e12, e13, e14, e15, e16, e17, e18, e19, e20, e21, e22, e23, e24, e25, e26, e27, e28, e29, e30, e31, e32, e33, e34, e35, e36, e37, e38, e39, e40, e41, e42, e43, e44, e45, e46] at ht
        have hd := he.defers
        clear he e0 e1 e2 e3 e4 e5 e6 e7 e8 e9 e10 e11 e12 e13 e14 e15 e16 e17 e18 e19 e20 e21 e22 e23 e24 e25 e26 e27 e28 e29 e30 e31 e32 e33 e34 e35 e36 e37 e38 e39 e40 e41 e42 e43 e44 e45 e46
        obtain ⟨t, df⟩ := a
        simp only at ht hd
        subst ht hd
        go_wp2_with (rw [fop_guard]; first | (refine law_fadd (by rfl) (by rfl) ?_; intro r n hr lr) | (refine law_fmul (by rfl) (by rfl) ?_; intro r n hr lr))
        refine (H3.out r5 _ l5 q5.out (HTW.out.drewN _)).mono ?_
        rintro e w' ⟨c1, n1, rfl, hc1, lc1, rfl⟩
        have qc1 : Hid (cl c1 = C1) := hc1
        clear hc1
        go_wp2_with (rw [fop_guard]; first | (refine law_fadd (by rfl) (by rfl) ?_; intro r n hr lr) | (refine law_fmul (by rfl) (by rfl) ?_; intro r n hr lr))
        refine (H4.out r6 _ l6 q6.out (HTW.out.drewN _)).mono ?_
        rintro e w' ⟨c2, n2, rfl, hc2, lc2, rfl⟩
        have qc2 : Hid (cl c2 = C2) := hc2
        clear hc2
        go_wp2_with (first | (rw [fop_guard]; first | (refine law_fadd (by rfl) (by rfl) ?_; intro r n hr lr) | (refine law_fmul (by rfl) (by rfl) ?_; intro r n hr lr)) | (rw [fmin_guard]; refine law_fmin (by rfl) (by assumption) ?_; intro r n hr lr) | (go_at_call 16; refine (sqrt_any _ _).mono ?_; rintro e w' ⟨r, n, rfl, hr, lr, rfl⟩; have hr' : Hid (_ = _) := hr; clear hr) | (go_at_call 15; refine (Asin_any _ (by assumption) _).mono ?_; rintro e w' ⟨r, n, rfl, hr, lr, rfl⟩; have hr' : Hid (_ = _) := hr; clear hr))
        go_ret
        refine ⟨r, rfl, ?_, lr, below_drewN hbel _⟩
        rw [HF.out]
        unfold Hid at *
        simp only [*, kmF, hF]
  exact HQ
end Go.Proofs.YbulkcivsDoor
