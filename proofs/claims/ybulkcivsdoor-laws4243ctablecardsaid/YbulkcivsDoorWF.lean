import Derived.Test.YbulkcivsDoorWE
import Derived.Deep.QuietTactic
import Derived.BigQuiet
namespace Go.Proofs.YbulkcivsDoor
open Go.RowKit
set_option linter.unusedVariables false

theorem trig_exp (x E : Nat) (hE : x / 4503599627370496 = E) (h1 : 1052 ≤ E) (h2 : E ≤ 2046) : bits .and .u64 ((x : Int) / 4503599627370496) 2047 = (E : Int) := by
  have h := u64_and_nat E 2047 (by omega) (by omega)
  have e : ((x : Int) / 4503599627370496) = (E : Int) := by omega
  rw [e]
  have e2 : E &&& 2047 = E := by
    have : (2047 : Nat) = 2 ^ 11 - 1 := by decide
    rw [this, Nat.and_two_pow_sub_one_eq_mod]; omega
  rw [show ((2047 : Nat) : Int) = 2047 from rfl] at h
  rw [h, e2]

theorem u64_small (n : Int) (h0 : 0 ≤ n) (h1 : n < 18446744073709551616) : IntKind.u64.wrap n = n := by
  simp [IntKind.wrap, IntKind.bits, IntKind.signed]; omega

set_option maxRecDepth 100000 in
set_option maxHeartbeats 2000000 in
theorem trig_even (x E d bs : Nat) (IX P0 P1 P2 P3 Z0 Z1 Z2 LO C HI H2 N G ZI J J2 : Int) (ZB : Nat) (h1 : 1052 ≤ E) (h2 : E ≤ 2046) (hd0 : d ≤ 16) (hbs0 : bs < 64) (w : World)
    (o1 : (FloatKind.f64.format.order x 4605249457297304856 == some .lt) = false) (hb : bits .and .u64 ((x : Int) / 4503599627370496) 2047 = (E : Int))
    (hix : bits .or .u64 (bits .andNot .u64 (x : Int) 9218868437227405312) 4503599627370496 = IX) (hd : ((E : Int) - 1023 - 52 + 61) / 64 = (d : Int)) (hbs : ((E : Int) - 1023 - 52 + 61) % 64 = (bs : Int))
    (wi : 0 ≤ IX) (wi2 : IX < 18446744073709551616) (w0 : 0 ≤ P0) (w02 : P0 < 18446744073709551616) (w1 : 0 ≤ P1) (w12 : P1 < 18446744073709551616) (w2 : 0 ≤ P2) (w22 : P2 < 18446744073709551616) (w3 : 0 ≤ P3) (w32 : P3 < 18446744073709551616)
    (c0 : w.cell? ⟨4, d, none⟩ = some (.int .u64 P0)) (c1 : w.cell? ⟨4, d + 1, none⟩ = some (.int .u64 P1)) (c2 : w.cell? ⟨4, d + 2, none⟩ = some (.int .u64 P2)) (c3 : w.cell? ⟨4, d + 3, none⟩ = some (.int .u64 P3))
    (hz0 : bits .or .u64 (IntKind.u64.wrap (P0 * 2 ^ bs)) (P1 / 2 ^ (64 - bs)) = Z0) (hz1 : bits .or .u64 (IntKind.u64.wrap (P1 * 2 ^ bs)) (P2 / 2 ^ (64 - bs)) = Z1) (hz2 : bits .or .u64 (IntKind.u64.wrap (P2 * 2 ^ bs)) (P3 / 2 ^ (64 - bs)) = Z2)
    (z0a : 0 ≤ Z0) (z0b : Z0 < 18446744073709551616) (z1a : 0 ≤ Z1) (z1b : Z1 < 18446744073709551616) (z2a : 0 ≤ Z2) (z2b : Z2 < 18446744073709551616)
    (m1 : 0 ≤ mulHi Z1 IX) (m2 : 0 ≤ mulHi Z2 IX) (m3 : 0 ≤ mulLo Z1 IX) (m4 : 0 ≤ mulLo Z2 IX) (m5 : 0 ≤ IntKind.u64.wrap (Z0 * IX))
    (hlo : (mulLo Z1 IX + mulHi Z2 IX) % 18446744073709551616 = LO) (hc : (mulLo Z1 IX + mulHi Z2 IX) / 18446744073709551616 = C) (hc0 : 0 ≤ C) (hc1 : C ≤ 1)
    (hhi : (IntKind.u64.wrap (Z0 * IX) + mulHi Z1 IX + C) % 18446744073709551616 = HI) (lo1 : 0 ≤ LO) (lo2 : LO < 18446744073709551616) (hi1 : 0 ≤ HI) (hi2 : HI < 18446744073709551616)
    (hh2 : bits .or .u64 (IntKind.u64.wrap (HI * 8)) (LO / 2305843009213693952) = H2) (g1 : 0 ≤ H2) (g2 : H2 < 18446744073709551616)
    (n0 : 0 ≤ N) (n1 : N ≤ 63) (hlz : Hid (∀ w, Calls Ybad.prog 32 #[.int .u64 H2] w fun e w' => e = .returned (.int .i64 N) ∧ w' = w))
    (hG : bits .or .u64 (IntKind.u64.wrap (H2 * 2 ^ (N + 1).toNat)) (LO / 2 ^ (64 - (N + 1)).toNat) = G) (hZ : bits .or .u64 (G / 4096) ((1023 - (N + 1)) * 4503599627370496) = ZI) (gg1 : 0 ≤ G) (gg2 : G < 18446744073709551616) (hZB : ZI.toNat = ZB) (fz : Fin ZB 0) (hJ : HI / 2305843009213693952 = J) (hJ0 : 0 ≤ J) (hJ7 : J ≤ 7) (hj1 : (bits .and .u64 J 1 == 1) = false) :
    Calls Ybad.prog 28 #[.float .f64 x] w fun e w' => (∃ n, w' = w.drewN n) ∧ e = .returned (.tuple #[.int .u64 J, .float .f64 (mulT ZB 4605249457297304856)]) := by
  have g1 := call_bits
  have g2 := call_frombits
  have i0 : (d : Int) < 20 := by omega
  have i1 : (d : Int) + 1 < 20 := by omega
  have i2 : (d : Int) + 2 < 20 := by omega
  have i3 : (d : Int) + 3 < 20 := by omega
  have j0 : (0 : Int) ≤ (d : Int) := by omega
  have j1 : (0 : Int) ≤ (d : Int) + 1 := by omega
  have j2 : (0 : Int) ≤ (d : Int) + 2 := by omega
  have j3 : (0 : Int) ≤ (d : Int) + 3 := by omega
  have t1 : ((d : Int) + 1).toNat = d + 1 := by omega
  have t2 : ((d : Int) + 2).toNat = d + 2 := by omega
  have t3 : ((d : Int) + 3).toNat = d + 3 := by omega
  have u1 : IntKind.u64.wrap ((d : Int) + 1) = (d : Int) + 1 := u64_small _ (by omega) (by omega)
  have u2 : IntKind.u64.wrap ((d : Int) + 2) = (d : Int) + 2 := u64_small _ (by omega) (by omega)
  have u3 : IntKind.u64.wrap ((d : Int) + 3) = (d : Int) + 3 := u64_small _ (by omega) (by omega)
  have v1 : IntKind.u64.wrap (64 - (bs : Int)) = 64 - (bs : Int) := u64_small _ (by omega) (by omega)
  have v2 : (0 : Int) ≤ 64 - (bs : Int) := by omega
  have a1 := run_add64' (mulLo Z1 IX) (mulHi Z2 IX) 0 m3 m2 (by omega) (by omega)
  have a2 := run_add64' (IntKind.u64.wrap (Z0 * IX)) (mulHi Z1 IX) C m5 m1 hc0 hc1
  simp only [Int.add_zero, hlo, hc, hhi] at a1 a2
  have fp : Fin 4605249457297304856 0 := by unfold Fin; decide
  have fo : Fin 4607182418800017408 0 := by unfold Fin; decide
  go_enter Ybad.func28, Ybad.ntmps28
  go_wp2
  go_quiet (fail)
  go_wp2
  go_quiet (fail)
  go_wp2
  go_quiet (fail)
  go_wp2_with fail
  refine (mul64_any Z2 IX z2a z2b wi wi2 _).mono ?_
  rintro e w' ⟨rfl, rfl⟩
  go_wp2_with fail
  refine (mul64_any Z1 IX z1a z1b wi wi2 _).mono ?_
  rintro e w' ⟨rfl, rfl⟩
  go_wp2_with fail
  refine (hlz.out _).mono ?_
  rintro e w' ⟨rfl, rfl⟩
  go_wp2_with (rw [fop_guard]; first | (refine law_mulT (by rfl) (by rfl) (by assumption) (by assumption) (by decide) ?_; intro r hr fr lr) | (refine law_subT (by rfl) (by rfl) (by assumption) (by assumption) (by decide) ?_; intro r hr fr lr))
  go_ret2
  refine ⟨⟨_, rfl⟩, ?_⟩
  rw [hr.out]; rfl

set_option maxRecDepth 100000 in
set_option maxHeartbeats 2000000 in
theorem trig_odd (x E d bs : Nat) (IX P0 P1 P2 P3 Z0 Z1 Z2 LO C HI H2 N G ZI J J2 : Int) (ZB : Nat) (h1 : 1052 ≤ E) (h2 : E ≤ 2046) (hd0 : d ≤ 16) (hbs0 : bs < 64) (w : World)
    (o1 : (FloatKind.f64.format.order x 4605249457297304856 == some .lt) = false) (hb : bits .and .u64 ((x : Int) / 4503599627370496) 2047 = (E : Int))
    (hix : bits .or .u64 (bits .andNot .u64 (x : Int) 9218868437227405312) 4503599627370496 = IX) (hd : ((E : Int) - 1023 - 52 + 61) / 64 = (d : Int)) (hbs : ((E : Int) - 1023 - 52 + 61) % 64 = (bs : Int))
    (wi : 0 ≤ IX) (wi2 : IX < 18446744073709551616) (w0 : 0 ≤ P0) (w02 : P0 < 18446744073709551616) (w1 : 0 ≤ P1) (w12 : P1 < 18446744073709551616) (w2 : 0 ≤ P2) (w22 : P2 < 18446744073709551616) (w3 : 0 ≤ P3) (w32 : P3 < 18446744073709551616)
    (c0 : w.cell? ⟨4, d, none⟩ = some (.int .u64 P0)) (c1 : w.cell? ⟨4, d + 1, none⟩ = some (.int .u64 P1)) (c2 : w.cell? ⟨4, d + 2, none⟩ = some (.int .u64 P2)) (c3 : w.cell? ⟨4, d + 3, none⟩ = some (.int .u64 P3))
    (hz0 : bits .or .u64 (IntKind.u64.wrap (P0 * 2 ^ bs)) (P1 / 2 ^ (64 - bs)) = Z0) (hz1 : bits .or .u64 (IntKind.u64.wrap (P1 * 2 ^ bs)) (P2 / 2 ^ (64 - bs)) = Z1) (hz2 : bits .or .u64 (IntKind.u64.wrap (P2 * 2 ^ bs)) (P3 / 2 ^ (64 - bs)) = Z2)
    (z0a : 0 ≤ Z0) (z0b : Z0 < 18446744073709551616) (z1a : 0 ≤ Z1) (z1b : Z1 < 18446744073709551616) (z2a : 0 ≤ Z2) (z2b : Z2 < 18446744073709551616)
    (m1 : 0 ≤ mulHi Z1 IX) (m2 : 0 ≤ mulHi Z2 IX) (m3 : 0 ≤ mulLo Z1 IX) (m4 : 0 ≤ mulLo Z2 IX) (m5 : 0 ≤ IntKind.u64.wrap (Z0 * IX))
    (hlo : (mulLo Z1 IX + mulHi Z2 IX) % 18446744073709551616 = LO) (hc : (mulLo Z1 IX + mulHi Z2 IX) / 18446744073709551616 = C) (hc0 : 0 ≤ C) (hc1 : C ≤ 1)
    (hhi : (IntKind.u64.wrap (Z0 * IX) + mulHi Z1 IX + C) % 18446744073709551616 = HI) (lo1 : 0 ≤ LO) (lo2 : LO < 18446744073709551616) (hi1 : 0 ≤ HI) (hi2 : HI < 18446744073709551616)
    (hh2 : bits .or .u64 (IntKind.u64.wrap (HI * 8)) (LO / 2305843009213693952) = H2) (g1 : 0 ≤ H2) (g2 : H2 < 18446744073709551616)
    (n0 : 0 ≤ N) (n1 : N ≤ 63) (hlz : Hid (∀ w, Calls Ybad.prog 32 #[.int .u64 H2] w fun e w' => e = .returned (.int .i64 N) ∧ w' = w))
    (hG : bits .or .u64 (IntKind.u64.wrap (H2 * 2 ^ (N + 1).toNat)) (LO / 2 ^ (64 - (N + 1)).toNat) = G) (hZ : bits .or .u64 (G / 4096) ((1023 - (N + 1)) * 4503599627370496) = ZI) (gg1 : 0 ≤ G) (gg2 : G < 18446744073709551616) (hZB : ZI.toNat = ZB) (fz : Fin ZB 0) (hJ : HI / 2305843009213693952 = J) (hJ0 : 0 ≤ J) (hJ7 : J ≤ 7) (hj1 : (bits .and .u64 J 1 == 1) = true) (hj2 : bits .and .u64 (J + 1) 7 = J2) :
    Calls Ybad.prog 28 #[.float .f64 x] w fun e w' => (∃ n, w' = w.drewN n) ∧ e = .returned (.tuple #[.int .u64 J2, .float .f64 (mulT (subT ZB 4607182418800017408) 4605249457297304856)]) := by
  have g1 := call_bits
  have g2 := call_frombits
  have i0 : (d : Int) < 20 := by omega
  have i1 : (d : Int) + 1 < 20 := by omega
  have i2 : (d : Int) + 2 < 20 := by omega
  have i3 : (d : Int) + 3 < 20 := by omega
  have j0 : (0 : Int) ≤ (d : Int) := by omega
  have j1 : (0 : Int) ≤ (d : Int) + 1 := by omega
  have j2 : (0 : Int) ≤ (d : Int) + 2 := by omega
  have j3 : (0 : Int) ≤ (d : Int) + 3 := by omega
  have t1 : ((d : Int) + 1).toNat = d + 1 := by omega
  have t2 : ((d : Int) + 2).toNat = d + 2 := by omega
  have t3 : ((d : Int) + 3).toNat = d + 3 := by omega
  have u1 : IntKind.u64.wrap ((d : Int) + 1) = (d : Int) + 1 := u64_small _ (by omega) (by omega)
  have u2 : IntKind.u64.wrap ((d : Int) + 2) = (d : Int) + 2 := u64_small _ (by omega) (by omega)
  have u3 : IntKind.u64.wrap ((d : Int) + 3) = (d : Int) + 3 := u64_small _ (by omega) (by omega)
  have v1 : IntKind.u64.wrap (64 - (bs : Int)) = 64 - (bs : Int) := u64_small _ (by omega) (by omega)
  have v2 : (0 : Int) ≤ 64 - (bs : Int) := by omega
  have a1 := run_add64' (mulLo Z1 IX) (mulHi Z2 IX) 0 m3 m2 (by omega) (by omega)
  have a2 := run_add64' (IntKind.u64.wrap (Z0 * IX)) (mulHi Z1 IX) C m5 m1 hc0 hc1
  simp only [Int.add_zero, hlo, hc, hhi] at a1 a2
  have fp : Fin 4605249457297304856 0 := by unfold Fin; decide
  have fo : Fin 4607182418800017408 0 := by unfold Fin; decide
  go_enter Ybad.func28, Ybad.ntmps28
  go_wp2
  go_quiet (fail)
  go_wp2
  go_quiet (fail)
  go_wp2
  go_quiet (fail)
  go_wp2_with fail
  refine (mul64_any Z2 IX z2a z2b wi wi2 _).mono ?_
  rintro e w' ⟨rfl, rfl⟩
  go_wp2_with fail
  refine (mul64_any Z1 IX z1a z1b wi wi2 _).mono ?_
  rintro e w' ⟨rfl, rfl⟩
  go_wp2_with fail
  refine (hlz.out _).mono ?_
  rintro e w' ⟨rfl, rfl⟩
  go_wp2_with (rw [fop_guard]; first | (refine law_mulT (by rfl) (by rfl) (by assumption) (by assumption) (by decide) ?_; intro r hr fr lr) | (refine law_subT (by rfl) (by rfl) (by assumption) (by assumption) (by decide) ?_; intro r hr fr lr))
  go_ret2
  refine ⟨⟨_, rfl⟩, ?_⟩
  have e1 := hr.out
  rename_i r0 hr0 _ _
  rw [hr0.out] at e1
  rw [e1]; rfl

end Go.Proofs.YbulkcivsDoor
