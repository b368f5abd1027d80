import Derived.Test.YbulkcivsDoorWG
namespace Go.Proofs.YbulkcivsDoor
open Go.RowKit
set_option linter.unusedVariables false

theorem mulT_fin {x y a b : Nat} (hx : Fin x a) (hy : Fin y b) (h : a + b ≤ 1021) : Fin (mulT x y) (a + b + 1) ∧ mulT x y < 2 ^ 64 := by
  obtain ⟨r, hr, hf⟩ := mul_fin hx hy h
  have e : mulT x y = r := by unfold mulT; rw [hr]; rfl
  rw [e]; exact ⟨hf, Ieee.double.mul_lt hr⟩
theorem addT_fin {x y a b : Nat} (hx : Fin x a) (hy : Fin y b) (h : max a b ≤ 1020) : Fin (addT x y) (max a b + 2) ∧ addT x y < 2 ^ 64 := by
  obtain ⟨r, hr, hf⟩ := add_fin hx hy h
  have e : addT x y = r := by unfold addT; rw [hr]; rfl
  rw [e]; exact ⟨hf, Ieee.double.add_lt hr⟩
theorem subT_fin {x y a b : Nat} (hx : Fin x a) (hy : Fin y b) (h : max a b ≤ 1020) : Fin (subT x y) (max a b + 2) ∧ subT x y < 2 ^ 64 := by
  obtain ⟨r, hr, hf⟩ := sub_fin hx hy h
  have e : subT x y = r := by unfold subT; rw [hr]; rfl
  rw [e]; exact ⟨hf, Ieee.double.sub_lt hr⟩

def pi4L : List Int := [1, 5040379952546458195, 17892431488136887169, 13169980181085364355, 18204331823439776451, 7946843935494350272, 905889640498799673, 18175356263134875261, 15061281708168349961, 15220161563773041794, 8296664548579374057, 4109744767560208502, 4607516669194743839, 16023283104648321598, 15739233654134936430, 11424645774684705882, 16883842788696515318, 8795094592981902804, 15561835991111744016, 12395701187267450711]
/-- math.mPi4 as its text lays it. -/
def Tab4 (w : World) : Prop := ∀ i, i < 20 → w.cell? ⟨4, i, none⟩ = some (.int .u64 (pi4L.getD i 0))
theorem pi4_word : ∀ i, i < 20 → Word (pi4L.getD i 0) := by
  have h : ∀ i : _root_.Fin 20, (decide (0 ≤ pi4L.getD i.val 0) && decide (pi4L.getD i.val 0 < 18446744073709551616)) = true := by decide
  intro i hi
  have := h ⟨i, hi⟩
  simp only [Bool.and_eq_true, decide_eq_true_eq] at this
  exact this

theorem bits_word (op : BinOp) (a b : Int) (h : op = .or ∨ op = .and ∨ op = .andNot) : Word (bits op .u64 a b) := by
  rcases h with rfl | rfl | rfl <;> exact wrap_word _

/-- The float that trigReduce lays out of its bits lies below 1. -/
theorem bits_fin (G m : Nat) (hG : G < 18446744073709551616) (hm : m ≤ 1022) : Fin (bits .or .u64 ((G : Int) / 4096) ((m : Int) * 4503599627370496)).toNat 0 := by
  have e1 : ((G : Int) / 4096) = ((G / 4096 : Nat) : Int) := by omega
  have e2 : ((m : Int) * 4503599627370496) = ((m * 4503599627370496 : Nat) : Int) := by omega
  rw [e1, e2, u64_or_nat _ _ (by omega) (by omega), Int.toNat_natCast]
  have e3 : G / 4096 ||| m * 4503599627370496 = m * 4503599627370496 + G / 4096 := by
    rw [Nat.or_comm]
    have := Nat.two_pow_add_eq_or_of_lt (i := 52) (b := G / 4096) (by omega) m
    rw [show (2 : Nat) ^ 52 = 4503599627370496 by decide] at this
    rw [Nat.mul_comm m, this]
  rw [e3]
  unfold Fin SW BN
  omega

theorem trig_any (x : Nat) (h1 : 4737786807993761792 ≤ x) (h2 : x < IR) : ∃ (J : Int) (Z : Nat), (J = 0 ∨ J = 2 ∨ J = 4 ∨ J = 6) ∧ Fin Z 3 ∧ Z < 2 ^ 64 ∧
    ∀ w, Tab4 w → Calls Ybad.prog 28 #[.float .f64 x] w fun e w' => (∃ n, w' = w.drewN n) ∧ e = .returned (.tuple #[.int .u64 J, .float .f64 Z]) := by
  have h2' : x < 9218868437227405312 := h2
  have o1 : (FloatKind.f64.format.order x 4605249457297304856 == some .lt) = false := by
    show (Ieee.double.order x 4605249457297304856 == some .lt) = false
    rw [order_low (by unfold IR; omega) (by decide), ncmp_gt (by omega)]; rfl
  obtain ⟨E, hE⟩ : ∃ E, x / 4503599627370496 = E := ⟨_, rfl⟩
  have hE1 : 1052 ≤ E := by omega
  have hE2 : E ≤ 2046 := by omega
  have hb := trig_exp x E hE hE1 hE2
  obtain ⟨d, hd⟩ : ∃ d : Nat, ((E : Int) - 1023 - 52 + 61) / 64 = (d : Int) := ⟨(((E : Int) - 1023 - 52 + 61) / 64).toNat, by omega⟩
  obtain ⟨bs, hbs⟩ : ∃ bs : Nat, ((E : Int) - 1023 - 52 + 61) % 64 = (bs : Int) := ⟨(((E : Int) - 1023 - 52 + 61) % 64).toNat, by omega⟩
  have hd16 : d ≤ 16 := by omega
  have hbs64 : bs < 64 := by omega
  obtain ⟨IX, hIX⟩ : ∃ IX, bits .or .u64 (bits .andNot .u64 (x : Int) 9218868437227405312) 4503599627370496 = IX := ⟨_, rfl⟩
  have wi : Word IX := by rw [← hIX]; exact bits_word _ _ _ (.inl rfl)
  have p0 := pi4_word d (by omega)
  have p1 := pi4_word (d + 1) (by omega)
  have p2 := pi4_word (d + 2) (by omega)
  have p3 := pi4_word (d + 3) (by omega)
  obtain ⟨P0, hP0⟩ : ∃ P, pi4L.getD d 0 = P := ⟨_, rfl⟩
  obtain ⟨P1, hP1⟩ : ∃ P, pi4L.getD (d + 1) 0 = P := ⟨_, rfl⟩
  obtain ⟨P2, hP2⟩ : ∃ P, pi4L.getD (d + 2) 0 = P := ⟨_, rfl⟩
  obtain ⟨P3, hP3⟩ : ∃ P, pi4L.getD (d + 3) 0 = P := ⟨_, rfl⟩
  rw [hP0] at p0; rw [hP1] at p1; rw [hP2] at p2; rw [hP3] at p3
  obtain ⟨Z0, hZ0⟩ : ∃ Z, bits .or .u64 (IntKind.u64.wrap (P0 * 2 ^ bs)) (P1 / 2 ^ (64 - bs)) = Z := ⟨_, rfl⟩
  obtain ⟨Z1, hZ1⟩ : ∃ Z, bits .or .u64 (IntKind.u64.wrap (P1 * 2 ^ bs)) (P2 / 2 ^ (64 - bs)) = Z := ⟨_, rfl⟩
  obtain ⟨Z2, hZ2⟩ : ∃ Z, bits .or .u64 (IntKind.u64.wrap (P2 * 2 ^ bs)) (P3 / 2 ^ (64 - bs)) = Z := ⟨_, rfl⟩
  have z0 : Word Z0 := by rw [← hZ0]; exact bits_word _ _ _ (.inl rfl)
  have z1 : Word Z1 := by rw [← hZ1]; exact bits_word _ _ _ (.inl rfl)
  have z2 : Word Z2 := by rw [← hZ2]; exact bits_word _ _ _ (.inl rfl)
  have m1 : Word (mulHi Z1 IX) := wrap_word _
  have m2 : Word (mulHi Z2 IX) := wrap_word _
  have m3 : Word (mulLo Z1 IX) := wrap_word _
  have m4 : Word (mulLo Z2 IX) := wrap_word _
  have m5 : Word (IntKind.u64.wrap (Z0 * IX)) := wrap_word _
  obtain ⟨LO, hLO⟩ : ∃ L, (mulLo Z1 IX + mulHi Z2 IX) % 18446744073709551616 = L := ⟨_, rfl⟩
  obtain ⟨C, hC⟩ : ∃ L, (mulLo Z1 IX + mulHi Z2 IX) / 18446744073709551616 = L := ⟨_, rfl⟩
  obtain ⟨HI, hHI⟩ : ∃ L, (IntKind.u64.wrap (Z0 * IX) + mulHi Z1 IX + C) % 18446744073709551616 = L := ⟨_, rfl⟩
  unfold Word at m1 m2 m3 m4 m5 z0 z1 z2 p0 p1 p2 p3 wi
  have hC0 : 0 ≤ C := by omega
  have hC1 : C ≤ 1 := by omega
  have hLO0 : 0 ≤ LO := by omega
  have hLO1 : LO < 18446744073709551616 := by omega
  have hHI0 : 0 ≤ HI := by omega
  have hHI1 : HI < 18446744073709551616 := by omega
  obtain ⟨H2, hH2⟩ : ∃ L, bits .or .u64 (IntKind.u64.wrap (HI * 8)) (LO / 2305843009213693952) = L := ⟨_, rfl⟩
  have wH2 : Word H2 := by rw [← hH2]; exact bits_word _ _ _ (.inl rfl)
  obtain ⟨N, ⟨hN0, hN1⟩, hlz⟩ := lz_any H2 wH2
  obtain ⟨J, hJ⟩ : ∃ J, HI / 2305843009213693952 = J := ⟨_, rfl⟩
  have hJ0 : 0 ≤ J := by omega
  have hJ7 : J ≤ 7 := by omega
  have fp : Fin 4605249457297304856 0 := by unfold Fin; decide
  have fo : Fin 4607182418800017408 0 := by unfold Fin; decide
  by_cases hN : N = 64
  · obtain ⟨G, hG⟩ : ∃ G, bits .or .u64 (IntKind.u64.wrap (H2 * 18446744073709551616)) (LO / 2 ^ min (IntKind.u64.wrap (-1)).toNat 64) = G := ⟨_, rfl⟩
    have wG : Word G := by rw [← hG]; exact bits_word _ _ _ (.inl rfl)
    obtain ⟨Gn, rfl⟩ := Int.eq_ofNat_of_zero_le wG.1
    obtain ⟨ZI, hZI⟩ : ∃ L, bits .or .u64 ((Gn : Int) / 4096) 4314448443020935168 = L := ⟨_, rfl⟩
    have fz : Fin ZI.toNat 0 := by
      have := bits_fin Gn 958 (by have := wG.2; omega) (by omega)
      rw [← hZI]; exact this
    cases hj : (bits .and .u64 J 1 == 1)
    · have hz := mulT_fin fz fp (by omega)
      refine ⟨J, _, ?_, hz.1.mono (by omega), hz.2, fun w hw => trig_even64 x E d bs IX P0 P1 P2 P3 Z0 Z1 Z2 LO C HI H2 N Gn ZI J 0 _ hE1 hE2 hd16 hbs64 w o1 hb hIX hd hbs wi.1 wi.2 p0.1 p0.2 p1.1 p1.2 p2.1 p2.2 p3.1 p3.2
        (by rw [← hP0]; exact hw _ (by omega)) (by rw [← hP1]; exact hw _ (by omega)) (by rw [← hP2]; exact hw _ (by omega)) (by rw [← hP3]; exact hw _ (by omega)) hZ0 hZ1 hZ2 z0.1 z0.2 z1.1 z1.2 z2.1 z2.2 m1.1 m2.1 m3.1 m4.1 m5.1 hLO hC hC0 hC1 hHI hLO0 hLO1 hHI0 hHI1 hH2 wH2.1 wH2.2 hN hlz hG hZI wG.1 wG.2 rfl fz hJ hJ0 hJ7 hj⟩
      have : J = 0 ∨ J = 1 ∨ J = 2 ∨ J = 3 ∨ J = 4 ∨ J = 5 ∨ J = 6 ∨ J = 7 := by omega
      clear hJ
      rcases this with rfl | rfl | rfl | rfl | rfl | rfl | rfl | rfl <;> first | omega | (exfalso; revert hj; decide)
    · have hs := subT_fin fz fo (by omega)
      have hz := mulT_fin hs.1 fp (by omega)
      refine ⟨bits .and .u64 (J + 1) 7, _, ?_, hz.1.mono (by omega), hz.2, fun w hw => trig_odd64 x E d bs IX P0 P1 P2 P3 Z0 Z1 Z2 LO C HI H2 N Gn ZI J _ _ hE1 hE2 hd16 hbs64 w o1 hb hIX hd hbs wi.1 wi.2 p0.1 p0.2 p1.1 p1.2 p2.1 p2.2 p3.1 p3.2
        (by rw [← hP0]; exact hw _ (by omega)) (by rw [← hP1]; exact hw _ (by omega)) (by rw [← hP2]; exact hw _ (by omega)) (by rw [← hP3]; exact hw _ (by omega)) hZ0 hZ1 hZ2 z0.1 z0.2 z1.1 z1.2 z2.1 z2.2 m1.1 m2.1 m3.1 m4.1 m5.1 hLO hC hC0 hC1 hHI hLO0 hLO1 hHI0 hHI1 hH2 wH2.1 wH2.2 hN hlz hG hZI wG.1 wG.2 rfl fz hJ hJ0 hJ7 hj rfl⟩
      have : J = 0 ∨ J = 1 ∨ J = 2 ∨ J = 3 ∨ J = 4 ∨ J = 5 ∨ J = 6 ∨ J = 7 := by omega
      clear hJ
      rcases this with rfl | rfl | rfl | rfl | rfl | rfl | rfl | rfl <;> first | decide | (exfalso; revert hj; decide)
  · obtain ⟨G, hG⟩ : ∃ G, bits .or .u64 (IntKind.u64.wrap (H2 * 2 ^ (N + 1).toNat)) (LO / 2 ^ (64 - (N + 1)).toNat) = G := ⟨_, rfl⟩
    have wG : Word G := by rw [← hG]; exact bits_word _ _ _ (.inl rfl)
    obtain ⟨Gn, rfl⟩ := Int.eq_ofNat_of_zero_le wG.1
    obtain ⟨ZI, hZI⟩ : ∃ L, bits .or .u64 ((Gn : Int) / 4096) ((1023 - (N + 1)) * 4503599627370496) = L := ⟨_, rfl⟩
    have fz : Fin ZI.toNat 0 := by
      obtain ⟨m, hm⟩ : ∃ m : Nat, 1023 - (N + 1) = (m : Int) := ⟨(1023 - (N + 1)).toNat, by omega⟩
      have := bits_fin Gn m (by have := wG.2; omega) (by omega)
      rw [← hZI, hm]; exact this
    cases hj : (bits .and .u64 J 1 == 1)
    · have hz := mulT_fin fz fp (by omega)
      refine ⟨J, _, ?_, hz.1.mono (by omega), hz.2, fun w hw => trig_even x E d bs IX P0 P1 P2 P3 Z0 Z1 Z2 LO C HI H2 N Gn ZI J 0 _ hE1 hE2 hd16 hbs64 w o1 hb hIX hd hbs wi.1 wi.2 p0.1 p0.2 p1.1 p1.2 p2.1 p2.2 p3.1 p3.2
        (by rw [← hP0]; exact hw _ (by omega)) (by rw [← hP1]; exact hw _ (by omega)) (by rw [← hP2]; exact hw _ (by omega)) (by rw [← hP3]; exact hw _ (by omega)) hZ0 hZ1 hZ2 z0.1 z0.2 z1.1 z1.2 z2.1 z2.2 m1.1 m2.1 m3.1 m4.1 m5.1 hLO hC hC0 hC1 hHI hLO0 hLO1 hHI0 hHI1 hH2 wH2.1 wH2.2 hN0 (by omega) hlz hG hZI wG.1 wG.2 rfl fz hJ hJ0 hJ7 hj⟩
      have : J = 0 ∨ J = 1 ∨ J = 2 ∨ J = 3 ∨ J = 4 ∨ J = 5 ∨ J = 6 ∨ J = 7 := by omega
      clear hJ
      rcases this with rfl | rfl | rfl | rfl | rfl | rfl | rfl | rfl <;> first | omega | (exfalso; revert hj; decide)
    · have hs := subT_fin fz fo (by omega)
      have hz := mulT_fin hs.1 fp (by omega)
      refine ⟨bits .and .u64 (J + 1) 7, _, ?_, hz.1.mono (by omega), hz.2, fun w hw => trig_odd x E d bs IX P0 P1 P2 P3 Z0 Z1 Z2 LO C HI H2 N Gn ZI J _ _ hE1 hE2 hd16 hbs64 w o1 hb hIX hd hbs wi.1 wi.2 p0.1 p0.2 p1.1 p1.2 p2.1 p2.2 p3.1 p3.2
        (by rw [← hP0]; exact hw _ (by omega)) (by rw [← hP1]; exact hw _ (by omega)) (by rw [← hP2]; exact hw _ (by omega)) (by rw [← hP3]; exact hw _ (by omega)) hZ0 hZ1 hZ2 z0.1 z0.2 z1.1 z1.2 z2.1 z2.2 m1.1 m2.1 m3.1 m4.1 m5.1 hLO hC hC0 hC1 hHI hLO0 hLO1 hHI0 hHI1 hH2 wH2.1 wH2.2 hN0 (by omega) hlz hG hZI wG.1 wG.2 rfl fz hJ hJ0 hJ7 hj rfl⟩
      have : J = 0 ∨ J = 1 ∨ J = 2 ∨ J = 3 ∨ J = 4 ∨ J = 5 ∨ J = 6 ∨ J = 7 := by omega
      clear hJ
      rcases this with rfl | rfl | rfl | rfl | rfl | rfl | rfl | rfl <;> first | decide | (exfalso; revert hj; decide)
end Go.Proofs.YbulkcivsDoor
