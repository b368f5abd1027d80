import Derived.Test.YbulkcivsEchoD
namespace Go.Proofs.Ybulkcivs
open Go.RowKit

set_option maxHeartbeats 1000000 in
theorem echo_long (a : Option Addr) (len cap : Nat) (cost : Int) (tr : ByteArray) (a3 : Option Addr) (n c : Nat) (w : World) (hl : 4096 < len) :
    Calls Yba.prog 3 #[.slice a len cap, .int .i64 cost, .string tr, .slice a3 n c] w fun e w' => e = .returned (.bool true) ∧ Below w.heap.size w w' := by
  have hl' : (4096 : Int) < (len : Int) := by omega
  go_enter Yba.func3, Yba.ntmps3
  go_wp2
  go_ret
  exact ⟨rfl, Below.refl _ _⟩

set_option maxHeartbeats 1000000 in
theorem echo_long2 (a : Option Addr) (len cap : Nat) (cost : Int) (tr : ByteArray) (a3 : Option Addr) (n c : Nat) (w : World) (hl : len ≤ 4096) (hn : 4096 < n) :
    Calls Yba.prog 3 #[.slice a len cap, .int .i64 cost, .string tr, .slice a3 n c] w fun e w' => e = .returned (.bool true) ∧ Below w.heap.size w w' := by
  have hl' : ¬ (4096 : Int) < (len : Int) := by omega
  have hn' : (4096 : Int) < (n : Int) := by omega
  go_enter Yba.func3, Yba.ntmps3
  go_wp2
  go_ret
  exact ⟨rfl, Below.refl _ _⟩

set_option maxHeartbeats 1000000 in
theorem echo_nil_nil (cost : Int) (tr : ByteArray) (w : World) :
    Calls Yba.prog 3 #[.slice none 0 0, .int .i64 cost, .string tr, .slice none 0 0] w fun e w' => e = .returned (.bool true) ∧ Below w.heap.size w w' := by
  have hn := fun w a n c => Lib.run_eql_slice_nil (P := Yba.prog) w 22 5 a n c 0 0 Yba.underlying22
  have hn2 := fun w a n c => run_neq_slice_nil_any (P := Yba.prog) w 22 5 a n c 0 0 Yba.underlying22
  have hn3 := fun w a n c => run_neq_slice_nil_any (P := Yba.prog) w 23 9 a n c 0 0 Yba.underlying23
  go_enter Yba.func3, Yba.ntmps3
  go_wp2_with fail
  refine (marshal_nil _ _ _ _ _ _ _ _ _).mono ?_
  rintro e w' ⟨⟨a, rfl⟩, o, rfl⟩
  go_wp2_with fail
  refine (isZero_nil _ _ _ _ _ _ _ _ _).mono ?_
  rintro e w' ⟨rfl, rfl⟩
  go_wp2
  go_ret
  exact ⟨rfl, ((((Below.refl _ _).alloc (Nat.le_refl _) _).alloc (by simp) _).alloc (by simp; omega) _).alloc (by simp; omega) _⟩

set_option maxHeartbeats 1000000 in
theorem echo_nil_some (cost : Int) (tr : ByteArray) (y : Addr) (n tc : Nat) (ss : List ByteArray) (w : World)
    (hn1 : n ≤ 4096) (hnc : n ≤ ss.length) (hscell : ∀ i, i < ss.length → w.cell? (y.add i) = some (.string (ss.getD i ByteArray.empty))) :
    Calls Yba.prog 3 #[.slice none 0 0, .int .i64 cost, .string tr, .slice (some y) n tc] w fun e w' => e = .returned (.bool true) ∧ Below w.heap.size w w' := by
  have hn := fun w a n c => Lib.run_eql_slice_nil (P := Yba.prog) w 22 5 a n c 0 0 Yba.underlying22
  have hn2 := fun w a n c => run_neq_slice_nil_any (P := Yba.prog) w 22 5 a n c 0 0 Yba.underlying22
  have hn3 := fun w a n c => run_neq_slice_nil_any (P := Yba.prog) w 23 9 a n c 0 0 Yba.underlying23
  have hmk2 := make_strings n hn1
  obtain ⟨cs2, hcs2⟩ : ∃ cs, cs = (ss.take n).map Value.string := ⟨_, rfl⟩
  have hlen2 : cs2.length = n := by rw [hcs2]; simp; omega
  have hcp2 := fun ty => copy_new 23 9 Yba.underlying23 (by kernel_rfl) (.string ByteArray.empty) n tc y cs2 hlen2 w (by rw [hcs2]; exact strs_at hnc hscell) (by rw [hcs2]; exact strs_oneCell _) ty
  clear hcs2 hlen2 hscell hnc
  go_enter Yba.func3, Yba.ntmps3
  go_wp2_with fail
  refine (marshal_nil _ _ _ _ _ _ _ _ _).mono ?_
  rintro e w' ⟨⟨a, rfl⟩, o, rfl⟩
  go_wp2_with fail
  refine (isZero_nil _ _ _ _ _ _ _ _ _).mono ?_
  rintro e w' ⟨rfl, rfl⟩
  go_wp2
  go_ret
  exact ⟨rfl, (((((Below.refl _ _).alloc (Nat.le_refl _) _).alloc (by simp) _).alloc (by simp; omega) _).alloc (by simp; omega) _).alloc (by simp; omega) _⟩
end Go.Proofs.Ybulkcivs
