/-
  runeBytes and the leading-ones model, walked.
-/
import Derived.Test.YbulkcixiRows
import Derived.WalkKit
import Derived.ProofKit
namespace Go.Proofs.Ybulkcixi
open Go.RowKit
set_option linter.unusedVariables false
set_option linter.unusedSimpArgs false

/-- How many leading ones. -/
def lead (c : Nat) : Nat := if c < 128 then 0 else if c < 192 then 1 else if c < 224 then 2 else if c < 240 then 3 else if c < 248 then 4 else if c < 252 then 5 else if c < 254 then 6 else if c < 255 then 7 else 8
def rb (c : Nat) : Nat := if 240 ≤ c ∧ c < 248 then 4 else if 224 ≤ c ∧ c < 240 then 3 else if 192 ≤ c ∧ c < 224 then 2 else 1

set_option maxRecDepth 100000 in
theorem runeBytes_any (c : Nat) (w : World) : Calls Yba.prog 7 #[.int .u8 c] w fun e w' => e = .returned (.int .i64 (rb c)) ∧ w' = w := by
  obtain ⟨R, hR⟩ : ∃ R, rb c = R := ⟨_, rfl⟩
  rw [hR]
  unfold rb at hR
  by_cases h1 : 240 ≤ c
  · have h1' : (240 : Int) ≤ c := by omega
    by_cases h2 : c < 248
    · have h2' : (c : Int) < 248 := by omega
      go_enter Yba.func7, Yba.ntmps7
      go_wp2
      go_ret
      rw [if_pos (by omega)] at hR
      exact ⟨by rw [← hR]; rfl, rfl⟩
    · have h2' : ¬ (c : Int) < 248 := by omega
      have h3 : (224 : Int) ≤ c := by omega
      have h4 : ¬ (c : Int) < 240 := by omega
      have h5 : (192 : Int) ≤ c := by omega
      have h6 : ¬ (c : Int) < 224 := by omega
      go_enter Yba.func7, Yba.ntmps7
      go_wp2
      go_ret
      rw [if_neg (by omega), if_neg (by omega), if_neg (by omega)] at hR
      exact ⟨by rw [← hR]; rfl, rfl⟩
  · have h1' : ¬ (240 : Int) ≤ c := by omega
    by_cases h3 : 224 ≤ c
    · have h3' : (224 : Int) ≤ c := by omega
      have h4 : (c : Int) < 240 := by omega
      go_enter Yba.func7, Yba.ntmps7
      go_wp2
      go_ret
      rw [if_neg (by omega), if_pos (by omega)] at hR
      exact ⟨by rw [← hR]; rfl, rfl⟩
    · have h3' : ¬ (224 : Int) ≤ c := by omega
      by_cases h5 : 192 ≤ c
      · have h5' : (192 : Int) ≤ c := by omega
        have h6 : (c : Int) < 224 := by omega
        go_enter Yba.func7, Yba.ntmps7
        go_wp2
        go_ret
        rw [if_neg (by omega), if_neg (by omega), if_pos (by omega)] at hR
        exact ⟨by rw [← hR]; rfl, rfl⟩
      · have h5' : ¬ (192 : Int) ≤ c := by omega
        go_enter Yba.func7, Yba.ntmps7
        go_wp2
        go_ret
        rw [if_neg (by omega), if_neg (by omega), if_neg (by omega)] at hR
        exact ⟨by rw [← hR]; rfl, rfl⟩

theorem bit_table : ((List.range 256).all fun c => (List.range 9).all fun n => (decide (lead c ≤ n) || (bits .and .u8 (c : Int) (128 / 2 ^ n) != 0)) && (decide (n ≠ lead c) || decide (n = 8) || !(bits .and .u8 (c : Int) (128 / 2 ^ n) != 0)) && decide (lead c ≤ 8) &&
    (decide (rb c = if 2 ≤ lead c ∧ lead c ≤ 4 then lead c else 1))) = true := by kernel_rfl
theorem bit_facts {c n : Nat} (hc : c < 256) (hn : n ≤ 8) : (n < lead c → (bits .and .u8 (c : Int) (128 / 2 ^ n) != 0) = true) ∧ (n = lead c → n < 8 → (bits .and .u8 (c : Int) (128 / 2 ^ n) != 0) = false) ∧ lead c ≤ 8 ∧ rb c = if 2 ≤ lead c ∧ lead c ≤ 4 then lead c else 1 := by
  have h := List.all_eq_true.1 (List.all_eq_true.1 bit_table c (List.mem_range.2 hc)) n (List.mem_range.2 (by omega))
  simp only [Bool.and_eq_true, Bool.or_eq_true, decide_eq_true_eq, Bool.not_eq_true'] at h
  obtain ⟨⟨⟨h1, h2⟩, h3⟩, h4⟩ := h
  refine ⟨fun h => ?_, fun h h' => ?_, h3, h4⟩
  · rcases h1 with h1 | h1
    · omega
    · exact h1
  · rcases h2 with (h2 | h2) | h2
    · exact absurd h h2
    · omega
    · exact h2

set_option maxRecDepth 100000 in
theorem model_any (c : Nat) (hc : c < 256) (w : World) : Calls Yba.prog 8 #[.int .u8 c] w fun e w' => e = .returned (.int .i64 (rb c)) ∧ w' = w := by
  obtain ⟨_, _, hl8, hrb⟩ := bit_facts hc (Nat.zero_le 8)
  obtain ⟨R, hR⟩ : ∃ R, rb c = R := ⟨_, rfl⟩
  rw [hR] at hrb ⊢
  go_enter Yba.func8, Yba.ntmps8
  go_wp2
  go_loopw [3] (fun i wr => ∃ n : Nat, n ≤ lead c ∧ i = .int .i64 n ∧ wr = w) (fun i _ => 8 - (intOf i).toNat)
  case atStart => exact ⟨0, Nat.zero_le _, rfl, rfl⟩
  case round =>
    obtain ⟨n, hn, rfl, rfl⟩ := hrel
    obtain ⟨b1, b0, _, _⟩ := bit_facts (n := n) hc (by omega)
    by_cases hlt : n < lead c
    · have h8' : (n : Int) < 8 := by omega
      have hb := b1 hlt
      clear b1 b0
      go_wp2
      go_roundw
      case rel => exact ⟨n + 1, by omega, by go_num, by trivial⟩
      case measure => simp [intOf]; omega
    · have hne : lead c = n := by omega
      by_cases h8 : n < 8
      · have h8' : (n : Int) < 8 := by omega
        have hb := b0 hne.symm h8
        clear b1 b0
        by_cases h2 : 2 ≤ n
        · have h2' : (2 : Int) ≤ n := by omega
          by_cases h4 : n ≤ 4
          · have h4' : (n : Int) ≤ 4 := by omega
            rw [if_pos (by omega), hne] at hrb
            go_wp2
            go_ret
            exact ⟨by simp [hrb], rfl⟩
          · have h4' : ¬ (n : Int) ≤ 4 := by omega
            rw [if_neg (by omega)] at hrb
            go_wp2
            go_ret
            exact ⟨rfl, rfl⟩
        · have h2' : ¬ (2 : Int) ≤ n := by omega
          rw [if_neg (by omega)] at hrb
          go_wp2
          go_ret
          exact ⟨rfl, rfl⟩
      · obtain rfl : n = 8 := by omega
        rw [if_neg (by omega)] at hrb
        clear b1 b0
        go_wp2
        go_ret
        exact ⟨by rw [hrb]; rfl, rfl⟩

set_option maxRecDepth 100000 in
theorem all_walk (w : World) : Calls Yba.prog 3 #[] w fun e w' => e = .returned (.bool true) ∧ w' = w := by
  go_enter Yba.func3, Yba.ntmps3
  go_wp2
  go_loopw [1] (fun i wr => ∃ n : Nat, n ≤ 256 ∧ i = .int .i64 n ∧ wr = w) (fun i _ => 256 - (intOf i).toNat)
  case atStart => exact ⟨0, Nat.zero_le _, rfl, rfl⟩
  case round =>
    obtain ⟨n, hn, rfl, rfl⟩ := hrel
    by_cases hlt : n < 256
    · have hlt' : (n : Int) < 256 := by omega
      have hw : IntKind.u8.wrap (n : Int) = (n : Int) := by rw [IntKind.wrap_u8]; omega
      go_wp2_with (first | (go_at_call 7; refine (runeBytes_any _ _).mono ?_; rintro e w' ⟨rfl, rfl⟩) | (go_at_call 8; refine (model_any _ hlt _).mono ?_; rintro e w' ⟨rfl, rfl⟩))
      go_roundw
      case rel => exact ⟨n + 1, by omega, by go_num, by trivial⟩
      case measure => simp [intOf]; omega
    · have hlt' : ¬ (n : Int) < 256 := by omega
      go_wp2
      go_ret
      exact ⟨rfl, rfl⟩
end Go.Proofs.Ybulkcixi
