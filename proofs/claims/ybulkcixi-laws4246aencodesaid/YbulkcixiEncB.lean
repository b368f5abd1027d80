/-
  utf8.EncodeRune, and the law's own function, walked.
-/
import Derived.Test.YbulkcixiEnc
namespace Go.Proofs.Ybulkcixi
open Go.RowKit
set_option linter.unusedVariables false
set_option linter.unusedSimpArgs false

set_option maxRecDepth 100000 in
set_option maxHeartbeats 400000 in
theorem enc_any (r : Nat) (h2 : r ≤ 1114111) (hs : r < 55296 ∨ 57343 < r) (W : World) : Calls Yba.prog 9 #[.slice (some ⟨W.heap.size, 0, none⟩) 4 4, .int .i32 r] (W.alloc (.cells #[.int .u8 0, .int .u8 0, .int .u8 0, .int .u8 0] 25)) fun e w' => EncRes W e w' := by
  have hu : IntKind.u32.wrap (r : Int) = (r : Int) := by rw [IntKind.wrap_u32]; omega
  by_cases h1 : r ≤ 127
  · have h1' : (r : Int) ≤ 127 := by omega
    have hw : IntKind.u8.wrap (r : Int) = (r : Int) := by rw [IntKind.wrap_u8]; omega
    have hrb : Hid (rb r = 1) := by
      unfold rb Hid; rw [if_neg (by omega), if_neg (by omega), if_neg (by omega)]
    go_enter Yba.func9, Yba.ntmps9
    go_wp2
    go_ret
    exact ⟨1, r, _, _, _, rfl, rfl, hrb.out⟩
  · have h1' : ¬ (r : Int) ≤ 127 := by omega
    have H : Hid (Calls Yba.prog 13 #[.slice (some ⟨W.heap.size, 0, none⟩) 4 4, .int .i32 r] (W.alloc (.cells #[.int .u8 0, .int .u8 0, .int .u8 0, .int .u8 0] 25)) fun e w' => EncRes W e w') := by
      by_cases a1 : r ≤ 2047
      · exact enc2 r (by omega) a1 W
      · by_cases a2 : r ≤ 65535
        · exact enc3 r (by omega) a2 hs W
        · exact enc4 r (by omega) h2 W
    go_enter Yba.func9, Yba.ntmps9
    go_wp2_with (go_at_call 13; refine H.out.mono ?_; rintro e w' ⟨n, b, b1, b2, b3, rfl, rfl, hrb⟩; have HR : Hid (rb b = n) := hrb; clear hrb)
    go_ret
    exact ⟨n, b, _, _, _, rfl, rfl, HR.out⟩

set_option maxRecDepth 100000 in
set_option maxHeartbeats 400000 in
theorem encode_walk (x : Int) (h0 : 0 ≤ x) (w : World) : Calls Yba.prog 4 #[.int .u32 x] w fun e w' => e = .returned (.bool true) ∧ ∃ c t, w' = w.alloc (.cells c t) := by
  obtain ⟨z, hz⟩ : ∃ z : Int, x * 2654435761 = z := ⟨_, rfl⟩
  have hz0 : 0 ≤ IntKind.u32.wrap z := by rw [IntKind.wrap_u32]; omega
  obtain ⟨y, hy⟩ := Int.eq_ofNat_of_zero_le hz0
  obtain ⟨r, hr⟩ : ∃ r, y % 1114112 = r := ⟨_, rfl⟩
  have hrl : r ≤ 1114111 := by omega
  have hm : (y : Int).tmod 1114112 = (r : Int) := by rw [Int.tmod_eq_emod_of_nonneg (by omega)]; omega
  have hw : IntKind.i32.wrap (r : Int) = (r : Int) := by rw [IntKind.wrap_i32]; omega
  have hw2 : IntKind.u32.wrap (r : Int) = (r : Int) := by rw [IntKind.wrap_u32]; omega
  clear hr hz0
  by_cases h1 : 55296 ≤ r
  · have h1' : (55296 : Int) ≤ r := by omega
    by_cases h2 : r ≤ 57343
    · have h2' : (r : Int) ≤ 57343 := by omega
      obtain ⟨s, hs⟩ : ∃ s : Nat, (r : Int) - 2048 = (s : Int) := ⟨r - 2048, by omega⟩
      have hws : IntKind.i32.wrap (s : Int) = (s : Int) := by rw [IntKind.wrap_i32]; omega
      go_enter Yba.func4, Yba.ntmps4
      go_wp2_with (first | (go_at_call 9; refine (enc_any s (by omega) (by omega) w).mono ?_; rintro e w' ⟨n, b, b1, b2, b3, rfl, rfl, hrb⟩; have HR : Hid (rb b = n) := hrb; clear hrb) | (go_at_call 7; refine (runeBytes_any _ _).mono ?_; rintro e w' ⟨rfl, rfl⟩))
      go_ret
      exact ⟨by simp [HR.out], _, _, rfl⟩
    · have h2' : ¬ (r : Int) ≤ 57343 := by omega
      go_enter Yba.func4, Yba.ntmps4
      go_wp2_with (first | (go_at_call 9; refine (enc_any r (by omega) (by omega) w).mono ?_; rintro e w' ⟨n, b, b1, b2, b3, rfl, rfl, hrb⟩; have HR : Hid (rb b = n) := hrb; clear hrb) | (go_at_call 7; refine (runeBytes_any _ _).mono ?_; rintro e w' ⟨rfl, rfl⟩))
      go_ret
      exact ⟨by simp [HR.out], _, _, rfl⟩
  · have h1' : ¬ (55296 : Int) ≤ r := by omega
    go_enter Yba.func4, Yba.ntmps4
    go_wp2_with (first | (go_at_call 9; refine (enc_any r (by omega) (by omega) w).mono ?_; rintro e w' ⟨n, b, b1, b2, b3, rfl, rfl, hrb⟩; have HR : Hid (rb b = n) := hrb; clear hrb) | (go_at_call 7; refine (runeBytes_any _ _).mono ?_; rintro e w' ⟨rfl, rfl⟩))
    go_ret
    exact ⟨by simp [HR.out], _, _, rfl⟩
end Go.Proofs.Ybulkcixi
