import Derived.Test.YbulkcivsDoorLr
namespace Go.Proofs.YbulkcivsDoor
open Go.RowKit
set_option linter.unusedVariables false

theorem sub_self' {x : Nat} (h : x % SW < IR) : Ieee.double.sub x x = some 0 := by
  obtain ⟨m, t, ex, _⟩ := read_val h
  unfold Ieee.Format.sub
  rw [ex]
  simp only [Ieee.Datum.opposite, Ieee.Datum.sum, signed_not]
  have e1 : Ieee.signed (x / SW % 2 == 1) m (-1074 + (t : Int) - min (-1074 + (t : Int)) (-1074 + (t : Int))).toNat + -Ieee.signed (x / SW % 2 == 1) m (-1074 + (t : Int) - min (-1074 + (t : Int)) (-1074 + (t : Int))).toNat = 0 := by omega
  rw [e1]
  cases (x / SW % 2 == 1) <;> rfl

/-- The sine of a difference and of the other difference: one up to the sign. -/
theorem sin_both (X Y : Option Nat) (two : Option Nat) (g : Option Nat → Option Nat) (hg : ∀ Z, Cls Z → Cls (g Z)) (hn : ∀ Z, Cls Z → g (Z.map negB) = (g Z).map negB) (h0 : g (some 0) = some 0) :
    ∃ S S', Cls S ∧ SinTo (g (fsub X Y)) S ∧ SinTo (g (fsub Y X)) S' ∧ (S' = S ∨ S' = S.map negB) ∧ (fsub X Y = some 0 → S = some 0) := by
  have c := cls_fsub X Y
  obtain ⟨S, cS, h1, h2, h3⟩ := Sin_cl (g (fsub X Y)) (hg _ c)
  have hz : fsub X Y = some 0 → S = some 0 := fun e => h3 (by rw [e, h0])
  rcases fsub_swap X Y with h | ⟨e1, e2⟩
  · refine ⟨S, S.map negB, cS, h1, ?_, .inr rfl, hz⟩
    rw [h, hn _ c]; exact h2
  · refine ⟨S, S, cS, h1, ?_, .inl rfl, hz⟩
    rw [e2, ← e1]; exact h1

theorem kmF_sym {S1 S1' S2 S2' : Option Nat} (C1 C2 : Option Nat) (c1 : Cls S1) (c2 : Cls S2) (h1 : S1' = S1 ∨ S1' = S1.map negB) (h2 : S2' = S2 ∨ S2' = S2.map negB) : kmF S1' S2' C2 C1 = kmF S1 S2 C1 C2 := by
  have e1 : fmul S1' S1' = fmul S1 S1 := by
    rcases h1 with rfl | rfl
    · rfl
    · exact fmul_neg_neg c1
  have e2 : fmul (fmul (fmul C2 C1) S2') S2' = fmul (fmul (fmul C1 C2) S2) S2 := by
    rw [fmul_comm C2 C1]
    rcases h2 with rfl | rfl
    · rfl
    · exact fmul_neg_twice _ c2
  unfold kmF hF
  rw [e1, e2]

theorem kmF_zero {c d : Nat} (hc : Fin c 482) (hd : Fin d 482) : kmF (some 0) (some 0) (some c) (some d) = some 0 := by
  obtain ⟨r, hr, fr⟩ := mul_fin2 hc hd (by omega) (by omega)
  have e1 : fmul (some c) (some d) = some r := hr
  have e2 : hF (some 0) (some 0) (some c) (some d) = some 0 := by
    unfold hF
    rw [e1]
    rcases mul_zero_fin fr (by omega) with h | h
    · have e3 : fmul (some r) (some 0) = some 0 := h
      rw [e3]; decide
    · have e3 : fmul (some r) (some 0) = some SW := h
      rw [e3]; decide
  unfold kmF
  rw [e2]
  decide

theorem cl_fin {x : Nat} (h : x % SW < IR) : cl x = some x := cl_some (nanB_le (by omega))

theorem dist_pair (La Oa Lb Ob : Nat) (hLa : La < 2 ^ 64) (hOa : Oa < 2 ^ 64) (hLb : Lb < 2 ^ 64) (hOb : Ob < 2 ^ 64) : ∃ D : Option Nat,
    (∀ w, Tabs w → Calls Ybad.prog 9 #[.agg #[.float .f64 La, .float .f64 Oa], .agg #[.float .f64 Lb, .float .f64 Ob]] w fun e w' => KmRes w D e w') ∧
    (∀ w, Tabs w → Calls Ybad.prog 9 #[.agg #[.float .f64 Lb, .float .f64 Ob], .agg #[.float .f64 La, .float .f64 Oa]] w fun e w' => KmRes w D e w') ∧
    (La = Lb → Oa = Ob → La % SW < IR → Oa % SW < IR → D = some 0) := by
  obtain ⟨S1, S1', c1, s1, s1', e1, z1⟩ := sin_both (fmul (cl Lb) (cl radC)) (fmul (cl La) (cl radC)) (cl twoC) (fun Z => fdiv Z (cl twoC)) (fun Z _ => cls_fdiv _ _) (fun Z h => fdiv_negl h _) (by decide)
  obtain ⟨S2, S2', c2, s2, s2', e2, z2⟩ := sin_both (cl Ob) (cl Oa) (cl twoC) (fun Z => fdiv (fmul Z (cl radC)) (cl twoC)) (fun Z _ => cls_fdiv _ _) (fun Z h => by rw [fmul_negl h, fdiv_negl (cls_fmul _ _)]) (by decide)
  obtain ⟨C1, k1, t1, f1⟩ := Cos_cl (fmul (cl La) (cl radC)) (cls_fmul _ _)
  obtain ⟨C2, k2, t2, f2⟩ := Cos_cl (fmul (cl Lb) (cl radC)) (cls_fmul _ _)
  refine ⟨kmF S1 S2 C1 C2, fun w hT => dist_walk La Oa Lb Ob S1 S2 C1 C2 s1 s2 t1 t2 w hT, fun w hT => ?_, fun h1 h2 h3 h4 => ?_⟩
  · rw [← kmF_sym C1 C2 c1 c2 e1 e2]
    exact dist_walk Lb Ob La Oa S1' S2' C2 C1 s1' s2' t2 t1 w hT
  · subst h1 h2
    obtain ⟨r, hr, fr⟩ := mul_rad_fin h3
    have er : fmul (cl La) (cl radC) = some r := by
      rw [cl_fin h3, show cl radC = some radC by decide]; exact hr
    have hz1 : S1 = some 0 := z1 (by rw [er]; exact sub_self fr (by omega))
    have hz2 : S2 = some 0 := z2 (by rw [cl_fin h4]; exact sub_self' h4)
    obtain ⟨c, hc, fc⟩ := f1 r er (fr.lt_IR (by omega))
    obtain ⟨d, hd, fd⟩ := f2 r er (fr.lt_IR (by omega))
    rw [hz1, hz2, hc, hd]
    exact kmF_zero fc fd

/-- THE DISTANCES, as one table. -/
theorem dist_all : ∃ K : Nat × Nat → Nat × Nat → Option Nat, ∀ p q : Nat × Nat, p.1 < 2 ^ 64 → p.2 < 2 ^ 64 → q.1 < 2 ^ 64 → q.2 < 2 ^ 64 →
    (∀ w, Tabs w → Calls Ybad.prog 9 #[.agg #[.float .f64 p.1, .float .f64 p.2], .agg #[.float .f64 q.1, .float .f64 q.2]] w fun e w' => KmRes w (K p q) e w') ∧ K p q = K q p ∧ (p.1 % SW < IR → p.2 % SW < IR → K p p = some 0) := by
  have h : ∀ x : (Nat × Nat) × (Nat × Nat), ∃ D : Option Nat, x.1.1 < 2 ^ 64 → x.1.2 < 2 ^ 64 → x.2.1 < 2 ^ 64 → x.2.2 < 2 ^ 64 →
    (∀ w, Tabs w → Calls Ybad.prog 9 #[.agg #[.float .f64 x.1.1, .float .f64 x.1.2], .agg #[.float .f64 x.2.1, .float .f64 x.2.2]] w fun e w' => KmRes w D e w') ∧
    (∀ w, Tabs w → Calls Ybad.prog 9 #[.agg #[.float .f64 x.2.1, .float .f64 x.2.2], .agg #[.float .f64 x.1.1, .float .f64 x.1.2]] w fun e w' => KmRes w D e w') ∧
    (x.1.1 = x.2.1 → x.1.2 = x.2.2 → x.1.1 % SW < IR → x.1.2 % SW < IR → D = some 0) := by
    rintro ⟨⟨a, b⟩, ⟨c, d⟩⟩
    by_cases h : a < 2 ^ 64 ∧ b < 2 ^ 64 ∧ c < 2 ^ 64 ∧ d < 2 ^ 64
    · obtain ⟨D, h1, h2, h3⟩ := dist_pair a b c d h.1 h.2.1 h.2.2.1 h.2.2.2
      exact ⟨D, fun _ _ _ _ => ⟨h1, h2, h3⟩⟩
    · exact ⟨none, fun h1 h2 h3 h4 => absurd ⟨h1, h2, h3, h4⟩ h⟩
  obtain ⟨D, hD⟩ : ∃ D : (Nat × Nat) × (Nat × Nat) → Option Nat, ∀ x : (Nat × Nat) × (Nat × Nat), x.1.1 < 2 ^ 64 → x.1.2 < 2 ^ 64 → x.2.1 < 2 ^ 64 → x.2.2 < 2 ^ 64 →
    (∀ w, Tabs w → Calls Ybad.prog 9 #[.agg #[.float .f64 x.1.1, .float .f64 x.1.2], .agg #[.float .f64 x.2.1, .float .f64 x.2.2]] w fun e w' => KmRes w (D x) e w') ∧
    (∀ w, Tabs w → Calls Ybad.prog 9 #[.agg #[.float .f64 x.2.1, .float .f64 x.2.2], .agg #[.float .f64 x.1.1, .float .f64 x.1.2]] w fun e w' => KmRes w (D x) e w') ∧
    (x.1.1 = x.2.1 → x.1.2 = x.2.2 → x.1.1 % SW < IR → x.1.2 % SW < IR → D x = some 0) :=
    ⟨fun x => Classical.choose (h x), fun x => Classical.choose_spec (h x)⟩
  refine ⟨fun p q => if p.1 < q.1 ∨ (p.1 = q.1 ∧ p.2 ≤ q.2) then D (p, q) else D (q, p), ?_⟩
  rintro ⟨a, b⟩ ⟨c, d⟩ h1 h2 h3 h4
  have k1 := hD ((a, b), (c, d)) h1 h2 h3 h4
  have k2 := hD ((c, d), (a, b)) h3 h4 h1 h2
  have k3 := hD ((a, b), (a, b)) h1 h2 h1 h2
  dsimp only at k1 k2 k3 ⊢
  refine ⟨fun w hT => ?_, ?_, fun f1 f2 => ?_⟩
  · split
    · exact k1.1 w hT
    · exact k2.2.1 w hT
  · by_cases e : a = c ∧ b = d
    · obtain ⟨rfl, rfl⟩ := e; rfl
    · by_cases g : a < c ∨ (a = c ∧ b ≤ d)
      · rw [if_pos g, if_neg (by omega)]
      · rw [if_neg g, if_pos (by omega)]
  · rw [if_pos (.inr ⟨rfl, Nat.le_refl _⟩)]
    exact k3.2.2 rfl rfl f1 f2
end Go.Proofs.YbulkcivsDoor
