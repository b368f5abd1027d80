import Derived.Test.YbulkcivsDoorXE
namespace Go.Proofs.YbulkcivsDoor
open Go.RowKit
set_option linter.unusedVariables false

/-- math.sin hands zeros and NaNs back. -/
theorem sin_ret0 (x : Nat) (hx : x < 2 ^ 64) (h : FloatKind.f64.format.order x 0 = some .eq) (w : World) : Calls Ybad.prog 19 #[.float .f64 x] w fun e w' => FlRes w (cl x) e w' := by
  go_enter Ybad.func19, Ybad.ntmps19
  go_wp2
  go_ret
  exact ⟨x, 0, rfl, rfl, hx, rfl⟩
theorem sin_retN (x : Nat) (hx : x < 2 ^ 64) (hn : nanB x = true) (w : World) : Calls Ybad.prog 19 #[.float .f64 x] w fun e w' => FlRes w (cl x) e w' := by
  have h : FloatKind.f64.format.order x 0 = none := order_none hn
  go_enter Ybad.func19, Ybad.ntmps19
  go_wp2_with (go_at_call 10; refine (isNaN_any _ _).mono ?_; rintro e w' ⟨rfl, rfl⟩)
  go_ret
  exact ⟨x, 0, rfl, rfl, hx, rfl⟩
theorem sin_inf (x : Nat) (hx : x < 2 ^ 64) (hn : nanB x = false) (hi : infB x = true) (w : World) : Calls Ybad.prog 19 #[.float .f64 x] w fun e w' => FlRes w none e w' := by
  have h : (FloatKind.f64.format.order x 0 == some .eq) = false := by
    show (Ieee.double.order x 0 == some .eq) = false
    have hm : x % SW = IR := by simpa [infB] using hi
    unfold Ieee.Format.order
    have : Ieee.double.read x = .infinity (x / SW % 2 == 1) := by
      rw [read_eq, if_neg (by unfold BN IR at *; omega), if_neg (by omega), if_pos hm]
    rw [this, show Ieee.double.read 0 = .number false 0 (-1074) by decide]
    cases (x / SW % 2 == 1) <;> rfl
  go_enter Ybad.func19, Ybad.ntmps19
  go_wp2_with (first | (go_at_call 10; refine (isNaN_any _ _).mono ?_; rintro e w' ⟨rfl, rfl⟩) | (go_at_call 11; refine (isInf_any _ hx hn _).mono ?_; rintro e w' ⟨rfl, rfl⟩) | (go_at_call 27; refine (nan_any _).mono ?_; rintro e w' ⟨rfl, rfl⟩))
  go_ret
  exact ⟨_, 0, rfl, cl_nan_const, by decide, rfl⟩
theorem cos_retN (x : Nat) (hx : x < 2 ^ 64) (hn : nanB x = true) (w : World) : Calls Ybad.prog 21 #[.float .f64 x] w fun e w' => FlRes w none e w' := by
  go_enter Ybad.func21, Ybad.ntmps21
  go_wp2_with (first | (go_at_call 10; refine (isNaN_any _ _).mono ?_; rintro e w' ⟨rfl, rfl⟩) | (go_at_call 27; refine (nan_any _).mono ?_; rintro e w' ⟨rfl, rfl⟩))
  go_ret
  exact ⟨_, 0, rfl, cl_nan_const, by decide, rfl⟩
theorem cos_inf (x : Nat) (hx : x < 2 ^ 64) (hn : nanB x = false) (hi : infB x = true) (w : World) : Calls Ybad.prog 21 #[.float .f64 x] w fun e w' => FlRes w none e w' := by
  go_enter Ybad.func21, Ybad.ntmps21
  go_wp2_with (first | (go_at_call 10; refine (isNaN_any _ _).mono ?_; rintro e w' ⟨rfl, rfl⟩) | (go_at_call 11; refine (isInf_any _ hx hn _).mono ?_; rintro e w' ⟨rfl, rfl⟩) | (go_at_call 27; refine (nan_any _).mono ?_; rintro e w' ⟨rfl, rfl⟩))
  go_ret
  exact ⟨_, 0, rfl, cl_nan_const, by decide, rfl⟩

theorem Sin_of (x : Nat) (w : World) (S : Option Nat) (h : Calls Ybad.prog 19 #[.float .f64 x] w fun e w' => FlRes w S e w') : Calls Ybad.prog 13 #[.float .f64 x] w fun e w' => FlRes w S e w' := by
  have H : Hid (Calls Ybad.prog 19 #[.float .f64 x] w fun e w' => FlRes w S e w') := h
  clear h
  go_enter Ybad.func13, Ybad.ntmps13
  go_wp2_with (go_at_call 19; refine H.out.mono ?_; rintro e w' ⟨r, n, rfl, hr, lr, rfl⟩; have hr' : Hid (_ = _) := hr; clear hr)
  go_ret
  exact ⟨r, _, rfl, hr'.out, lr, rfl⟩
theorem Cos_of (x : Nat) (w : World) (S : Option Nat) (h : Calls Ybad.prog 21 #[.float .f64 x] w fun e w' => FlRes w S e w') : Calls Ybad.prog 14 #[.float .f64 x] w fun e w' => FlRes w S e w' := by
  have H : Hid (Calls Ybad.prog 21 #[.float .f64 x] w fun e w' => FlRes w S e w') := h
  clear h
  go_enter Ybad.func14, Ybad.ntmps14
  go_wp2_with (go_at_call 21; refine H.out.mono ?_; rintro e w' ⟨r, n, rfl, hr, lr, rfl⟩; have hr' : Hid (_ = _) := hr; clear hr)
  go_ret
  exact ⟨r, _, rfl, hr'.out, lr, rfl⟩

/-- All words of a class, through math.Sin, come to one class. -/
def SinTo (X S : Option Nat) : Prop := ∀ y w, y < 2 ^ 64 → cl y = X → Tabs w → Calls Ybad.prog 13 #[.float .f64 y] w fun e w' => FlRes w S e w'
def CosTo (X S : Option Nat) : Prop := ∀ y w, y < 2 ^ 64 → cl y = X → Tabs w → Calls Ybad.prog 14 #[.float .f64 y] w fun e w' => FlRes w S e w'

theorem Fin.nan {r : Nat} (h : Fin r 482) : nanB r = false := h.notnan (by omega)

/-- SIN IS ODD, on classes. -/
theorem Sin_cl (X : Option Nat) (hX : Cls X) : ∃ S, Cls S ∧ SinTo X S ∧ SinTo (X.map negB) (S.map negB) ∧ (X = some 0 → S = some 0) := by
  cases X with
  | none =>
    refine ⟨none, (fun x h => by cases h), fun y w hy hc hT => ?_, fun y w hy hc hT => ?_, fun h => by cases h⟩
    · exact Sin_of _ _ _ (by have := sin_retN y hy (cl_eq_none hc) w; rw [hc] at this; exact this)
    · exact Sin_of _ _ _ (by have := sin_retN y hy (cl_eq_none hc) w; rw [hc] at this; exact this)
  | some x =>
    obtain ⟨hx, hn⟩ := hX x rfl
    have hn' : ¬ IR < x % SW := by simpa [nanB] using hn
    have hx2 := negB_lt hx
    have key : ∀ y z, cl y = some z → y = z := fun y z h => ((cl_eq_some h).1).symm
    by_cases hz : x % SW = 0
    · have o1 : FloatKind.f64.format.order x 0 = some .eq := by
        show Ieee.double.order x 0 = some .eq
        rw [order_zero hx (by rw [hz]; decide), if_pos hz]
      have o2 : FloatKind.f64.format.order (negB x) 0 = some .eq := by
        show Ieee.double.order (negB x) 0 = some .eq
        rw [order_zero hx2 (by rw [negB_mod hx, hz]; decide), if_pos (by rw [negB_mod hx, hz])]
      refine ⟨some x, hX, fun y w hy hc hT => ?_, fun y w hy hc hT => ?_, fun h => h⟩
      · obtain rfl := key y x hc
        exact Sin_of _ _ _ (by have := sin_ret0 y hy o1 w; rw [hc] at this; exact this)
      · obtain rfl := key y _ hc
        exact Sin_of _ _ _ (by have := sin_ret0 (negB x) hy o2 w; rw [hc] at this; exact this)
    · have hz0 : ∀ {S : Option Nat}, some x = some 0 → S = some 0 := fun h => by cases h; exact absurd (by decide) hz
      by_cases hi : x % SW = IR
      · have i1 : infB x = true := by simp [infB, hi]
        have i2 : infB (negB x) = true := by simp [infB, negB_mod hx, hi]
        refine ⟨none, (fun x h => by cases h), fun y w hy hc hT => ?_, fun y w hy hc hT => ?_, hz0⟩
        · obtain rfl := key y x hc
          exact Sin_of _ _ _ (sin_inf y hy hn i1 w)
        · obtain rfl := key y _ hc
          exact Sin_of _ _ _ (sin_inf (negB x) hy (by rw [negB_nan hx]; exact hn) i2 w)
      · obtain ⟨r, hr, fr, h1, h2⟩ := sin_pair (x % SW) (by omega) (by omega)
        have nr := fr.nan
        have nr2 : nanB (negB r) = false := by rw [negB_nan hr]; exact nr
        have g1 : ∀ w, Tabs w → Calls Ybad.prog 19 #[.float .f64 (x % SW)] w fun e w' => FlRes w (some r) e w' := fun w hT => (h1 w hT).mono fun e w' ⟨⟨n, hw⟩, he⟩ => ⟨r, n, he, cl_some nr, hr, hw⟩
        have g2 : ∀ w, Tabs w → Calls Ybad.prog 19 #[.float .f64 (negB (x % SW))] w fun e w' => FlRes w (some (negB r)) e w' := fun w hT => (h2 w hT).mono fun e w' ⟨⟨n, hw⟩, he⟩ => ⟨negB r, n, he, cl_some nr2, negB_lt hr, hw⟩
        rcases Nat.lt_or_ge x SW with hs | hs
        · have e : x % SW = x := Nat.mod_eq_of_lt hs
          rw [e] at g1 g2
          refine ⟨some r, (fun s h => by cases h; exact ⟨hr, nr⟩), fun y w hy hc hT => ?_, fun y w hy hc hT => ?_, hz0⟩
          · obtain rfl := key y x hc
            exact Sin_of _ _ _ (g1 w hT)
          · obtain rfl := key y _ hc
            exact Sin_of _ _ _ (g2 w hT)
        · have e : negB (x % SW) = x := by
            rw [negB_low (Nat.mod_lt _ (by decide))]
            unfold SW at *; omega
          have e2 : x % SW = negB x := by rw [← e, negB_negB, negB_mod (by unfold SW; omega)]; exact Nat.mod_mod_of_dvd _ (Nat.dvd_refl _)
          rw [e] at g2
          rw [e2] at g1
          refine ⟨some (negB r), (fun s h => by cases h; exact ⟨negB_lt hr, nr2⟩), fun y w hy hc hT => ?_, fun y w hy hc hT => ?_, hz0⟩
          · obtain rfl := key y x hc
            exact Sin_of _ _ _ (g2 w hT)
          · obtain rfl := key y _ hc
            have : (some (negB r)).map negB = some r := by simp [negB_negB]
            rw [this]
            exact Sin_of _ _ _ (g1 w hT)

theorem Cos_cl (X : Option Nat) (hX : Cls X) : ∃ S, Cls S ∧ CosTo X S ∧ ∀ x, X = some x → x % SW < IR → ∃ c, S = some c ∧ Fin c 482 := by
  cases X with
  | none =>
    refine ⟨none, (fun x h => by cases h), fun y w hy hc hT => ?_, (fun x h => by cases h)⟩
    exact Cos_of _ _ _ (cos_retN y hy (cl_eq_none hc) w)
  | some x =>
    obtain ⟨hx, hn⟩ := hX x rfl
    have hn' : ¬ IR < x % SW := by simpa [nanB] using hn
    have key : ∀ y z, cl y = some z → y = z := fun y z h => ((cl_eq_some h).1).symm
    by_cases hi : x % SW = IR
    · have i1 : infB x = true := by simp [infB, hi]
      refine ⟨none, (fun x h => by cases h), fun y w hy hc hT => ?_, (fun z h hz => by cases h; omega)⟩
      obtain rfl := key y x hc
      exact Cos_of _ _ _ (cos_inf y hy hn i1 w)
    · obtain ⟨r, hr, fr, h1⟩ := cos_fin x hx (by omega)
      refine ⟨some r, (fun s h => by cases h; exact ⟨hr, fr.nan⟩), fun y w hy hc hT => ?_, fun z h hz => ⟨r, rfl, fr⟩⟩
      obtain rfl := key y x hc
      exact Cos_of _ _ _ ((h1 w hT).mono fun e w' ⟨⟨n, hw⟩, he⟩ => ⟨r, n, he, cl_some fr.nan, hr, hw⟩)
end Go.Proofs.YbulkcivsDoor
