/-
  utf8.EncodeRune at the runes of the law, walked.
-/
import Derived.Test.YbulkcixiBytes
namespace Go.Proofs.Ybulkcixi
open Go.RowKit
set_option linter.unusedVariables false
set_option linter.unusedSimpArgs false

theorem or_table : (((List.range 32).all fun x => decide (bits .or .u8 192 (x : Int) = 192 + x)) && ((List.range 16).all fun x => decide (bits .or .u8 224 (x : Int) = 224 + x)) && ((List.range 8).all fun x => decide (bits .or .u8 240 (x : Int) = 240 + x))) = true := by kernel_rfl
theorem or192 {x : Nat} (h : x < 32) : bits .or .u8 192 (x : Int) = ((192 + x : Nat) : Int) := by
  have := or_table
  simp only [Bool.and_eq_true] at this
  have := List.all_eq_true.1 this.1.1 x (List.mem_range.2 h)
  simp only [decide_eq_true_eq] at this
  rw [this]; omega
theorem or224 {x : Nat} (h : x < 16) : bits .or .u8 224 (x : Int) = ((224 + x : Nat) : Int) := by
  have := or_table
  simp only [Bool.and_eq_true] at this
  have := List.all_eq_true.1 this.1.2 x (List.mem_range.2 h)
  simp only [decide_eq_true_eq] at this
  rw [this]; omega
theorem or240 {x : Nat} (h : x < 8) : bits .or .u8 240 (x : Int) = ((240 + x : Nat) : Int) := by
  have := or_table
  simp only [Bool.and_eq_true] at this
  have := List.all_eq_true.1 this.2 x (List.mem_range.2 h)
  simp only [decide_eq_true_eq] at this
  rw [this]; omega

/-- What EncodeRune leaves in the law's four bytes: its length, and a first byte that tells it. -/
def EncRes (W : World) (e : Ending) (w' : World) : Prop := ∃ (n b : Nat) (b1 b2 b3 : Value), e = .returned (.int .i64 n) ∧ w' = W.alloc (.cells #[.int .u8 b, b1, b2, b3] 25) ∧ rb b = n

set_option maxRecDepth 100000 in
set_option maxHeartbeats 1000000 in
theorem enc2 (r : Nat) (h1 : 128 ≤ r) (h2 : r ≤ 2047) (W : World) : Calls Yba.prog 13 #[.slice (some ⟨W.heap.size, 0, none⟩) 4 4, .int .i32 r] (W.alloc (.cells #[.int .u8 0, .int .u8 0, .int .u8 0, .int .u8 0] 25)) fun e w' => EncRes W e w' := by
  have h2' : (r : Int) ≤ 2047 := by omega
  have hu : IntKind.u32.wrap (r : Int) = (r : Int) := by rw [IntKind.wrap_u32]; omega
  obtain ⟨q, hq⟩ : ∃ q : Nat, (r : Int) / 64 = (q : Int) := ⟨r / 64, by omega⟩
  have hq1 : 2 ≤ q ∧ q < 32 := by omega
  have hw : IntKind.u8.wrap (q : Int) = (q : Int) := by rw [IntKind.wrap_u8]; omega
  obtain ⟨b, hb⟩ : ∃ b, 192 + q = b := ⟨_, rfl⟩
  have ho : bits .or .u8 192 (q : Int) = (b : Int) := by rw [or192 hq1.2, hb]
  have hrb : Hid (rb b = 2) := by
    unfold rb Hid; rw [if_neg (by omega), if_neg (by omega), if_pos (by omega)]
  go_enter Yba.func13, Yba.ntmps13
  go_wp2
  go_ret
  exact ⟨2, b, _, _, _, rfl, rfl, hrb.out⟩

set_option maxRecDepth 100000 in
set_option maxHeartbeats 1000000 in
theorem enc3 (r : Nat) (h1 : 2048 ≤ r) (h2 : r ≤ 65535) (hs : r < 55296 ∨ 57343 < r) (W : World) : Calls Yba.prog 13 #[.slice (some ⟨W.heap.size, 0, none⟩) 4 4, .int .i32 r] (W.alloc (.cells #[.int .u8 0, .int .u8 0, .int .u8 0, .int .u8 0] 25)) fun e w' => EncRes W e w' := by
  have h1' : ¬ (r : Int) ≤ 2047 := by omega
  have h2' : (r : Int) ≤ 65535 := by omega
  have hu : IntKind.u32.wrap (r : Int) = (r : Int) := by rw [IntKind.wrap_u32]; omega
  obtain ⟨q, hq⟩ : ∃ q : Nat, (r : Int) / 4096 = (q : Int) := ⟨r / 4096, by omega⟩
  have hq1 : q < 16 := by omega
  have hw : IntKind.u8.wrap (q : Int) = (q : Int) := by rw [IntKind.wrap_u8]; omega
  obtain ⟨b, hb⟩ : ∃ b, 224 + q = b := ⟨_, rfl⟩
  have ho : bits .or .u8 224 (q : Int) = (b : Int) := by rw [or224 hq1, hb]
  have hrb : Hid (rb b = 3) := by
    unfold rb Hid; rw [if_neg (by omega), if_pos (by omega)]
  by_cases h3 : r < 55296
  · have h3' : (r : Int) < 55296 := by omega
    go_enter Yba.func13, Yba.ntmps13
    go_wp2
    go_ret
    exact ⟨3, b, _, _, _, rfl, rfl, hrb.out⟩
  · have h3' : ¬ (r : Int) < 55296 := by omega
    have h4' : (57343 : Int) < (r : Int) := by omega
    go_enter Yba.func13, Yba.ntmps13
    go_wp2
    go_ret
    exact ⟨3, b, _, _, _, rfl, rfl, hrb.out⟩

set_option maxRecDepth 100000 in
set_option maxHeartbeats 1000000 in
theorem enc4 (r : Nat) (h1 : 65536 ≤ r) (h2 : r ≤ 1114111) (W : World) : Calls Yba.prog 13 #[.slice (some ⟨W.heap.size, 0, none⟩) 4 4, .int .i32 r] (W.alloc (.cells #[.int .u8 0, .int .u8 0, .int .u8 0, .int .u8 0] 25)) fun e w' => EncRes W e w' := by
  have h0' : ¬ (r : Int) ≤ 2047 := by omega
  have h1' : ¬ (r : Int) < 55296 := by omega
  have h2' : (57343 : Int) < (r : Int) := by omega
  have h3' : ¬ (r : Int) ≤ 65535 := by omega
  have h4' : (65535 : Int) < (r : Int) := by omega
  have h5' : (r : Int) ≤ 1114111 := by omega
  have hu : IntKind.u32.wrap (r : Int) = (r : Int) := by rw [IntKind.wrap_u32]; omega
  obtain ⟨q, hq⟩ : ∃ q : Nat, (r : Int) / 262144 = (q : Int) := ⟨r / 262144, by omega⟩
  have hq1 : q < 5 := by omega
  have hw : IntKind.u8.wrap (q : Int) = (q : Int) := by rw [IntKind.wrap_u8]; omega
  obtain ⟨b, hb⟩ : ∃ b, 240 + q = b := ⟨_, rfl⟩
  have ho : bits .or .u8 240 (q : Int) = (b : Int) := by rw [or240 (by omega), hb]
  have hrb : Hid (rb b = 4) := by
    unfold rb Hid; rw [if_pos (by omega)]
  go_enter Yba.func13, Yba.ntmps13
  go_wp2
  go_ret
  exact ⟨4, b, _, _, _, rfl, rfl, hrb.out⟩
end Go.Proofs.Ybulkcixi
