import Derived.Test.YbulkcivsDoorWD
namespace Go.Proofs.YbulkcivsDoor
open Go.RowKit
set_option linter.unusedVariables false

/-- The two words of math/bits.Mul64, as the text reckons them. -/
def mulHi (x y : Int) : Int :=
  IntKind.u64.wrap
    (IntKind.u64.wrap
        (IntKind.u64.wrap (x / 4294967296 * (y / 4294967296)) +
          IntKind.u64.wrap
              (IntKind.u64.wrap (x / 4294967296 * bits BinOp.and IntKind.u64 y 4294967295) +
                IntKind.u64.wrap
                    (bits BinOp.and IntKind.u64 x 4294967295 *
                      bits BinOp.and IntKind.u64 y 4294967295) /
                  4294967296) /
            4294967296) +
      IntKind.u64.wrap
          (bits BinOp.and IntKind.u64
              (IntKind.u64.wrap
                (IntKind.u64.wrap (x / 4294967296 * bits BinOp.and IntKind.u64 y 4294967295) +
                  IntKind.u64.wrap
                      (bits BinOp.and IntKind.u64 x 4294967295 *
                        bits BinOp.and IntKind.u64 y 4294967295) /
                    4294967296))
              4294967295 +
            IntKind.u64.wrap (bits BinOp.and IntKind.u64 x 4294967295 * (y / 4294967296))) /
        4294967296)
def mulLo (x y : Int) : Int := IntKind.u64.wrap (x * y)

/-- A word. -/
def Word (x : Int) : Prop := 0 ≤ x ∧ x < 18446744073709551616
theorem wrap_word (x : Int) : Word (IntKind.u64.wrap x) := by
  have e : IntKind.u64.wrap x = x % 18446744073709551616 := by
    simp [IntKind.wrap, IntKind.bits, IntKind.signed]
  rw [e]; unfold Word; omega

set_option maxHeartbeats 1000000 in
theorem mul64_any (x y : Int) (hx : 0 ≤ x) (hx2 : x < 18446744073709551616) (hy : 0 ≤ y) (hy2 : y < 18446744073709551616) (w : World) :
    Calls Ybad.prog 30 #[.int .u64 x, .int .u64 y] w fun e w' => e = .returned (.tuple #[.int .u64 (mulHi x y), .int .u64 (mulLo x y)]) ∧ w' = w := by
  go_enter Ybad.func30, Ybad.ntmps30
  go_wp2
  go_ret2
  exact ⟨rfl, rfl⟩

def tab8 : ByteArray := { data := #[0, 1, 2, 2, 3, 3, 3, 3, 4, 4, 4, 4, 4, 4, 4, 4, 5, 5, 5, 5, 5, 5, 5, 5, 5, 5, 5, 5, 5, 5, 5, 5, 6, 6, 6, 6, 6, 6, 6, 6, 6, 6, 6, 6, 6, 6, 6, 6, 6, 6, 6, 6, 6, 6, 6, 6, 6, 6, 6, 6, 6, 6, 6, 6, 7, 7, 7, 7, 7, 7, 7, 7, 7, 7, 7, 7, 7, 7, 7, 7, 7, 7, 7, 7, 7, 7, 7, 7, 7, 7, 7, 7, 7, 7, 7, 7, 7, 7, 7, 7, 7, 7, 7, 7, 7, 7, 7, 7, 7, 7, 7, 7, 7, 7, 7, 7, 7, 7, 7, 7, 7, 7, 7, 7, 7, 7, 7, 7, 8, 8, 8, 8, 8, 8, 8, 8, 8, 8, 8, 8, 8, 8, 8, 8, 8, 8, 8, 8, 8, 8, 8, 8, 8, 8, 8, 8, 8, 8, 8, 8, 8, 8, 8, 8, 8, 8, 8, 8, 8, 8, 8, 8, 8, 8, 8, 8, 8, 8, 8, 8, 8, 8, 8, 8, 8, 8, 8, 8, 8, 8, 8, 8, 8, 8, 8, 8, 8, 8, 8, 8, 8, 8, 8, 8, 8, 8, 8, 8, 8, 8, 8, 8, 8, 8, 8, 8, 8, 8, 8, 8, 8, 8, 8, 8, 8, 8, 8, 8, 8, 8, 8, 8, 8, 8, 8, 8, 8, 8, 8, 8, 8, 8, 8, 8, 8, 8, 8, 8, 8, 8, 8, 8, 8, 8, 8, 8] }
theorem tab8_all : tab8.data.all (fun b => decide (b.toNat ≤ 8)) = true := by decide +kernel
theorem tab8_le (i : Nat) (h : i < tab8.size) : (tab8[i]'h).toNat ≤ 8 := by
  have := Array.all_eq_true.1 tab8_all i h
  have h2 : (tab8.data[i]'h).toNat ≤ 8 := by simpa using this
  exact h2
theorem wrap64_small (n : Int) (h0 : 0 ≤ n) (h1 : n ≤ 1000) : wrap64 n = n := by
  unfold wrap64; omega
theorem len_bound0 (i : Nat) (h : i < tab8.size) : 0 ≤ wrap64 (wrap64 ((tab8[i]'h).toNat : Int)) ∧ wrap64 (wrap64 ((tab8[i]'h).toNat : Int)) ≤ 64 := by
  have := tab8_le i h
  rw [wrap64_small ((tab8[i]'h).toNat : Int) (by omega) (by omega), wrap64_small ((tab8[i]'h).toNat : Int) (by omega) (by omega)]
  omega
theorem len_bound (k : Int) (h0 : 0 ≤ k) (h1 : k ≤ 56) (i : Nat) (h : i < tab8.size) : 0 ≤ wrap64 (k + wrap64 ((tab8[i]'h).toNat : Int)) ∧ wrap64 (k + wrap64 ((tab8[i]'h).toNat : Int)) ≤ 64 := by
  have := tab8_le i h
  rw [wrap64_small ((tab8[i]'h).toNat : Int) (by omega) (by omega), wrap64_small _ (by omega) (by omega)]
  omega

set_option maxRecDepth 100000 in
set_option maxHeartbeats 1000000 in
theorem len64_111 (x : Int) (hx : 0 ≤ x) (hx2 : x < 18446744073709551616) (h1 : 4294967296 ≤ x) (h2 : 65536 ≤ x / 4294967296) (h3 : 256 ≤ x / 4294967296 / 65536) :
    ∃ n : Int, (0 ≤ n ∧ n ≤ 64) ∧ ∀ w, Calls Ybad.prog 34 #[.int .u64 x] w fun e w' => e = .returned (.int .i64 n) ∧ w' = w := by
  have hb : (x / 4294967296 / 65536 / 256).toNat < tab8.size := by show _ < 256; omega
  refine ⟨wrap64 (56 + wrap64 ((tab8[(x / 4294967296 / 65536 / 256).toNat]'hb).toNat : Int)), len_bound 56 (by omega) (by omega) _ hb, fun w => ?_⟩
  have hi : (x / 4294967296 / 65536 / 256).toNat < 256 := by omega
  have hi2 : (x / 4294967296 / 65536 / 256) < 256 := by omega
  have hi3 : 0 ≤ (x / 4294967296 / 65536 / 256) := by omega
  go_enter Ybad.func34, Ybad.ntmps34
  go_wp2
  go_ret
  exact ⟨rfl, rfl⟩

set_option maxRecDepth 100000 in
set_option maxHeartbeats 1000000 in
theorem len64_110 (x : Int) (hx : 0 ≤ x) (hx2 : x < 18446744073709551616) (h1 : 4294967296 ≤ x) (h2 : 65536 ≤ x / 4294967296) (h3 : x / 4294967296 / 65536 < 256) :
    ∃ n : Int, (0 ≤ n ∧ n ≤ 64) ∧ ∀ w, Calls Ybad.prog 34 #[.int .u64 x] w fun e w' => e = .returned (.int .i64 n) ∧ w' = w := by
  have hb : (x / 4294967296 / 65536).toNat < tab8.size := by show _ < 256; omega
  refine ⟨wrap64 (48 + wrap64 ((tab8[(x / 4294967296 / 65536).toNat]'hb).toNat : Int)), len_bound 48 (by omega) (by omega) _ hb, fun w => ?_⟩
  have hi : (x / 4294967296 / 65536).toNat < 256 := by omega
  have hi2 : (x / 4294967296 / 65536) < 256 := by omega
  have hi3 : 0 ≤ (x / 4294967296 / 65536) := by omega
  go_enter Ybad.func34, Ybad.ntmps34
  go_wp2
  go_ret
  exact ⟨rfl, rfl⟩

set_option maxRecDepth 100000 in
set_option maxHeartbeats 1000000 in
theorem len64_101 (x : Int) (hx : 0 ≤ x) (hx2 : x < 18446744073709551616) (h1 : 4294967296 ≤ x) (h2 : x / 4294967296 < 65536) (h3 : 256 ≤ x / 4294967296) :
    ∃ n : Int, (0 ≤ n ∧ n ≤ 64) ∧ ∀ w, Calls Ybad.prog 34 #[.int .u64 x] w fun e w' => e = .returned (.int .i64 n) ∧ w' = w := by
  have hb : (x / 4294967296 / 256).toNat < tab8.size := by show _ < 256; omega
  refine ⟨wrap64 (40 + wrap64 ((tab8[(x / 4294967296 / 256).toNat]'hb).toNat : Int)), len_bound 40 (by omega) (by omega) _ hb, fun w => ?_⟩
  have hi : (x / 4294967296 / 256).toNat < 256 := by omega
  have hi2 : (x / 4294967296 / 256) < 256 := by omega
  have hi3 : 0 ≤ (x / 4294967296 / 256) := by omega
  go_enter Ybad.func34, Ybad.ntmps34
  go_wp2
  go_ret
  exact ⟨rfl, rfl⟩

set_option maxRecDepth 100000 in
set_option maxHeartbeats 1000000 in
theorem len64_100 (x : Int) (hx : 0 ≤ x) (hx2 : x < 18446744073709551616) (h1 : 4294967296 ≤ x) (h2 : x / 4294967296 < 65536) (h3 : x / 4294967296 < 256) :
    ∃ n : Int, (0 ≤ n ∧ n ≤ 64) ∧ ∀ w, Calls Ybad.prog 34 #[.int .u64 x] w fun e w' => e = .returned (.int .i64 n) ∧ w' = w := by
  have hb : (x / 4294967296).toNat < tab8.size := by show _ < 256; omega
  refine ⟨wrap64 (32 + wrap64 ((tab8[(x / 4294967296).toNat]'hb).toNat : Int)), len_bound 32 (by omega) (by omega) _ hb, fun w => ?_⟩
  have hi : (x / 4294967296).toNat < 256 := by omega
  have hi2 : (x / 4294967296) < 256 := by omega
  have hi3 : 0 ≤ (x / 4294967296) := by omega
  go_enter Ybad.func34, Ybad.ntmps34
  go_wp2
  go_ret
  exact ⟨rfl, rfl⟩

set_option maxRecDepth 100000 in
set_option maxHeartbeats 1000000 in
theorem len64_011 (x : Int) (hx : 0 ≤ x) (hx2 : x < 18446744073709551616) (h1 : x < 4294967296) (h2 : 65536 ≤ x) (h3 : 256 ≤ x / 65536) :
    ∃ n : Int, (0 ≤ n ∧ n ≤ 64) ∧ ∀ w, Calls Ybad.prog 34 #[.int .u64 x] w fun e w' => e = .returned (.int .i64 n) ∧ w' = w := by
  have hb : (x / 65536 / 256).toNat < tab8.size := by show _ < 256; omega
  refine ⟨wrap64 (24 + wrap64 ((tab8[(x / 65536 / 256).toNat]'hb).toNat : Int)), len_bound 24 (by omega) (by omega) _ hb, fun w => ?_⟩
  have hi : (x / 65536 / 256).toNat < 256 := by omega
  have hi2 : (x / 65536 / 256) < 256 := by omega
  have hi3 : 0 ≤ (x / 65536 / 256) := by omega
  go_enter Ybad.func34, Ybad.ntmps34
  go_wp2
  go_ret
  exact ⟨rfl, rfl⟩

set_option maxRecDepth 100000 in
set_option maxHeartbeats 1000000 in
theorem len64_010 (x : Int) (hx : 0 ≤ x) (hx2 : x < 18446744073709551616) (h1 : x < 4294967296) (h2 : 65536 ≤ x) (h3 : x / 65536 < 256) :
    ∃ n : Int, (0 ≤ n ∧ n ≤ 64) ∧ ∀ w, Calls Ybad.prog 34 #[.int .u64 x] w fun e w' => e = .returned (.int .i64 n) ∧ w' = w := by
  have hb : (x / 65536).toNat < tab8.size := by show _ < 256; omega
  refine ⟨wrap64 (16 + wrap64 ((tab8[(x / 65536).toNat]'hb).toNat : Int)), len_bound 16 (by omega) (by omega) _ hb, fun w => ?_⟩
  have hi : (x / 65536).toNat < 256 := by omega
  have hi2 : (x / 65536) < 256 := by omega
  have hi3 : 0 ≤ (x / 65536) := by omega
  go_enter Ybad.func34, Ybad.ntmps34
  go_wp2
  go_ret
  exact ⟨rfl, rfl⟩

set_option maxRecDepth 100000 in
set_option maxHeartbeats 1000000 in
theorem len64_001 (x : Int) (hx : 0 ≤ x) (hx2 : x < 18446744073709551616) (h1 : x < 4294967296) (h2 : x < 65536) (h3 : 256 ≤ x) :
    ∃ n : Int, (0 ≤ n ∧ n ≤ 64) ∧ ∀ w, Calls Ybad.prog 34 #[.int .u64 x] w fun e w' => e = .returned (.int .i64 n) ∧ w' = w := by
  have hb : (x / 256).toNat < tab8.size := by show _ < 256; omega
  refine ⟨wrap64 (8 + wrap64 ((tab8[(x / 256).toNat]'hb).toNat : Int)), len_bound 8 (by omega) (by omega) _ hb, fun w => ?_⟩
  have hi : (x / 256).toNat < 256 := by omega
  have hi2 : (x / 256) < 256 := by omega
  have hi3 : 0 ≤ (x / 256) := by omega
  go_enter Ybad.func34, Ybad.ntmps34
  go_wp2
  go_ret
  exact ⟨rfl, rfl⟩

set_option maxRecDepth 100000 in
set_option maxHeartbeats 1000000 in
theorem len64_000 (x : Int) (hx : 0 ≤ x) (hx2 : x < 18446744073709551616) (h1 : x < 4294967296) (h2 : x < 65536) (h3 : x < 256) :
    ∃ n : Int, (0 ≤ n ∧ n ≤ 64) ∧ ∀ w, Calls Ybad.prog 34 #[.int .u64 x] w fun e w' => e = .returned (.int .i64 n) ∧ w' = w := by
  have hb : (x).toNat < tab8.size := by show _ < 256; omega
  refine ⟨wrap64 (wrap64 ((tab8[(x).toNat]'hb).toNat : Int)), len_bound0 _ hb, fun w => ?_⟩
  have hi : (x).toNat < 256 := by omega
  have hi2 : (x) < 256 := by omega
  have hi3 : 0 ≤ (x) := by omega
  go_enter Ybad.func34, Ybad.ntmps34
  go_wp2
  go_ret
  exact ⟨rfl, rfl⟩

theorem len64_any (x : Int) (h : Word x) : ∃ n : Int, (0 ≤ n ∧ n ≤ 64) ∧ ∀ w, Calls Ybad.prog 34 #[.int .u64 x] w fun e w' => e = .returned (.int .i64 n) ∧ w' = w := by
  obtain ⟨h0, h9⟩ := h
  by_cases h1 : 4294967296 ≤ x
  · by_cases h2 : 65536 ≤ x / 4294967296
    · by_cases h3 : 256 ≤ x / 4294967296 / 65536
      · exact len64_111 x h0 h9 h1 h2 h3
      · exact len64_110 x h0 h9 h1 h2 (by omega)
    · by_cases h3 : 256 ≤ x / 4294967296
      · exact len64_101 x h0 h9 h1 (by omega) h3
      · exact len64_100 x h0 h9 h1 (by omega) (by omega)
  · by_cases h2 : 65536 ≤ x
    · by_cases h3 : 256 ≤ x / 65536
      · exact len64_011 x h0 h9 (by omega) h2 h3
      · exact len64_010 x h0 h9 (by omega) h2 (by omega)
    · by_cases h3 : 256 ≤ x
      · exact len64_001 x h0 h9 (by omega) (by omega) h3
      · exact len64_000 x h0 h9 (by omega) (by omega) (by omega)

/-- How many leading zeros: SOME number of 0 to 64, a function of x alone. -/
theorem lz_any (x : Int) (h : Word x) : ∃ n : Int, (0 ≤ n ∧ n ≤ 64) ∧ ∀ w, Calls Ybad.prog 32 #[.int .u64 x] w fun e w' => e = .returned (.int .i64 n) ∧ w' = w := by
  obtain ⟨n, ⟨b0, b1⟩, hc⟩ := len64_any x h
  refine ⟨64 - n, by omega, fun w => ?_⟩
  have H := hc w
  have HH : Hid (Calls Ybad.prog 34 #[.int .u64 x] w fun e w' => e = .returned (.int .i64 n) ∧ w' = w) := H
  clear hc H
  go_enter Ybad.func32, Ybad.ntmps32
  go_wp2_with (go_at_call 34; refine HH.out.mono ?_; rintro e w' ⟨rfl, rfl⟩)
  go_ret
  exact ⟨rfl, rfl⟩
end Go.Proofs.YbulkcivsDoor
