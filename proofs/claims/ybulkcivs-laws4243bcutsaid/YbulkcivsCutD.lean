import Derived.Test.YbulkcivsCutC
namespace Go.Proofs.Ybulkcivs
open Go.RowKit

set_option maxRecDepth 100000 in
set_option maxHeartbeats 1000000 in
theorem cut_long (ma : Option Addr) (ml mc : Nat) (ia : Option Addr) (n ic : Nat) (w : World) (hn : 1024 < n) :
    Calls Yba.prog 4 #[.slice ma ml mc, .slice ia n ic] w fun e w' => e = .returned (.bool true) ∧ Below w.heap.size w w' := by
  have hl1 : (1024 : Int) < (n : Int) := by omega
  go_enter Yba.func4, Yba.ntmps4
  go_wp2
  go_ret
  exact ⟨rfl, Below.refl _ _⟩

set_option maxRecDepth 100000 in
set_option maxHeartbeats 1000000 in
theorem cut_long2 (ma : Option Addr) (ml mc : Nat) (ia : Option Addr) (n ic : Nat) (w : World) (hn : n ≤ 1024) (hml : 1048576 < ml) :
    Calls Yba.prog 4 #[.slice ma ml mc, .slice ia n ic] w fun e w' => e = .returned (.bool true) ∧ Below w.heap.size w w' := by
  have hl1 : ¬ (1024 : Int) < (n : Int) := by omega
  have hl2 : (1048576 : Int) < (ml : Int) := by omega
  go_enter Yba.func4, Yba.ntmps4
  go_wp2
  go_ret
  exact ⟨rfl, Below.refl _ _⟩

set_option maxRecDepth 100000 in
set_option maxHeartbeats 1000000 in
theorem cut_none (ma : Option Addr) (ml mc : Nat) (ia : Option Addr) (ic : Nat) (w : World) (hml : ml ≤ 1048576) :
    Calls Yba.prog 4 #[.slice ma ml mc, .slice ia 0 ic] w fun e w' => e = .returned (.bool true) ∧ Below w.heap.size w w' := by
  have hl2 : ¬ (1048576 : Int) < (ml : Int) := by omega
  go_enter Yba.func4, Yba.ntmps4
  go_wp2
  refine wp_loop_rounds 1 ?_
  rw [rounds_succ]
  go_wp2_with fail
  refine (cut_short _ _ _ _ (by omega) _).mono ?_
  rintro e w' ⟨rfl, rfl⟩
  go_wp2_with fail
  refine wp_loop_rounds 1 ?_
  rw [rounds_succ]
  go_wp2
  go_ret
  exact ⟨rfl, Below.refl _ _⟩
end Go.Proofs.Ybulkcivs
