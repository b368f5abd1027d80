import Derived.Test.YbulkcivsRows
import Derived.WalkKit
import Derived.WalkSpells
import Derived.WalkLawsBesides
namespace Go.Proofs.Ybulkcivs
open Go.RowKit

set_option maxHeartbeats 400000 in
theorem isZero_nil (c1 c2 c3 c4 c5 c6 c7 c8 : Value) (w : World) :
    Calls Yba.prog 6 #[.agg #[.slice none 0 0, c1, c2, c3, c4, c5, c6, c7, c8]] w fun e w' => e = .returned (.bool true) ∧ w' = w.alloc (.cells #[.slice none 0 0, c1, c2, c3, c4, c5, c6, c7, c8] 28) := by
  have hn := fun w a n c => Lib.run_eql_slice_nil (P := Yba.prog) w 22 5 a n c 0 0 Yba.underlying22
  go_enter Yba.func6, Yba.ntmps6
  go_wp2
  go_ret
  exact ⟨rfl, rfl⟩

set_option maxHeartbeats 400000 in
theorem isZero_some (a : Addr) (n c : Nat) (c1 c2 c3 c4 c5 c6 c7 c8 : Value) (w : World) :
    Calls Yba.prog 6 #[.agg #[.slice (some a) n c, c1, c2, c3, c4, c5, c6, c7, c8]] w fun e w' => e = .returned (.bool false) ∧ w' = w.alloc (.cells #[.slice (some a) n c, c1, c2, c3, c4, c5, c6, c7, c8] 28) := by
  have hn := fun w a n c => Lib.run_eql_slice_nil (P := Yba.prog) w 22 5 a n c 0 0 Yba.underlying22
  go_enter Yba.func6, Yba.ntmps6
  go_wp2
  go_ret
  exact ⟨rfl, rfl⟩

set_option maxHeartbeats 400000 in
theorem marshal_some (a : Addr) (n c : Nat) (c1 c2 c3 c4 c5 c6 c7 c8 : Value) (w : World) :
    Calls Yba.prog 5 #[.agg #[.slice (some a) n c, c1, c2, c3, c4, c5, c6, c7, c8]] w fun e w' => e = .returned (.tuple #[.slice (some a) n c, .nilIface]) ∧ w' = w.alloc (.cells #[.slice (some a) n c, c1, c2, c3, c4, c5, c6, c7, c8] 28) := by
  have hn := fun w a n c => Lib.run_eql_slice_nil (P := Yba.prog) w 22 5 a n c 0 0 Yba.underlying22
  go_enter Yba.func5, Yba.ntmps5
  go_wp2
  go_ret2
  exact ⟨rfl, rfl⟩

set_option maxHeartbeats 400000 in
theorem marshal_nil (c1 c2 c3 c4 c5 c6 c7 c8 : Value) (w : World) :
    Calls Yba.prog 5 #[.agg #[.slice none 0 0, c1, c2, c3, c4, c5, c6, c7, c8]] w fun e w' => (∃ a, e = .returned (.tuple #[.slice none 0 0, .iface 52 (.pointer (some a))])) ∧ ∃ o, w' = (w.alloc (.cells #[.slice none 0 0, c1, c2, c3, c4, c5, c6, c7, c8] 28)).alloc o := by
  have hn := fun w a n c => Lib.run_eql_slice_nil (P := Yba.prog) w 22 5 a n c 0 0 Yba.underlying22
  go_enter Yba.func5, Yba.ntmps5
  go_wp2
  go_ret2
  exact ⟨⟨_, rfl⟩, _, rfl⟩
end Go.Proofs.Ybulkcivs
