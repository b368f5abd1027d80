import Derived.Test.YbulkcivsCutA
import Derived.Deep.QuietTactic
import Derived.BigQuiet
import Derived.Deep.RegionHeld3
namespace Go.Proofs.Ybulkcivs
open Go.RowKit

theorem add_zero' (a : Addr) : a.add 0 = a := by
  obtain ⟨b, o, s⟩ := a
  unfold Addr.add
  cases s <;> simp
theorem map_add_zero (ma : Option Addr) : Option.map (fun x => x.add 0) ma = ma := by
  cases ma <;> simp [add_zero']

/-- no segment: fewer than two lines. -/
theorem cut_short (m : Value) (a : Option Addr) (n c : Nat) (hn : n < 2) (w : World) :
    Calls Yba.prog 8 #[m, .slice a n c] w fun e w' => e = .returned (.tuple #[.slice a n c, .pointer none]) ∧ w' = w := by
  have h1 : ¬ (2 : Int) ≤ (n : Int) := by omega
  go_enter Yba.func8, Yba.ntmps8
  go_wp2
  go_ret2
  exact ⟨rfl, rfl⟩

set_option maxHeartbeats 400000 in
theorem cut_no1 (m : Value) (g n c : Nat) (hn : 2 ≤ n) (hn2 : n ≤ 1024) (x : ByteArray) (w : World) (hx : w.cell? ⟨g, (n - 2) * 3, none⟩ = some (.string x)) (hne : (x.toList == [83, 105, 103, 110, 97, 116, 117, 114, 101, 46, 83, 105, 103, 65, 108, 103]) = false) :
    Calls Yba.prog 8 #[m, .slice (some ⟨g, 0, none⟩) n c] w fun e w' => e = .returned (.tuple #[.slice (some ⟨g, 0, none⟩) n c, .pointer none]) ∧ w' = w := by
  have h1 : (2 : Int) ≤ (n : Int) := by omega
  go_enter Yba.func8, Yba.ntmps8
  go_wp2
  go_ret2
  exact ⟨rfl, rfl⟩

set_option maxHeartbeats 400000 in
theorem cut_no2 (m : Value) (g n c : Nat) (hn : 2 ≤ n) (hn2 : n ≤ 1024) (x y : ByteArray) (w : World) (hx : w.cell? ⟨g, (n - 2) * 3, none⟩ = some (.string x)) (hy : w.cell? ⟨g, (n - 1) * 3, none⟩ = some (.string y))
    (hne : (x.toList == [83, 105, 103, 110, 97, 116, 117, 114, 101, 46, 83, 105, 103, 65, 108, 103]) = true) (hne2 : (y.toList == [83, 105, 103, 110, 97, 116, 117, 114, 101, 46, 83, 105, 103, 110, 97, 116, 117, 114, 101]) = false) :
    Calls Yba.prog 8 #[m, .slice (some ⟨g, 0, none⟩) n c] w fun e w' => e = .returned (.tuple #[.slice (some ⟨g, 0, none⟩) n c, .pointer none]) ∧ w' = w := by
  have h1 : (2 : Int) ≤ (n : Int) := by omega
  go_enter Yba.func8, Yba.ntmps8
  go_wp2
  go_ret2
  exact ⟨rfl, rfl⟩

set_option maxHeartbeats 1000000 in
theorem cut_yes (ma : Option Addr) (ml mc : Nat) (g n c : Nat) (hn : 2 ≤ n) (hn2 : n ≤ 1024) (hnc : n ≤ c) (x y v1 v2 : ByteArray) (at1 : Nat) (w : World) (hx : w.cell? ⟨g, (n - 2) * 3, none⟩ = some (.string x)) (hy : w.cell? ⟨g, (n - 1) * 3, none⟩ = some (.string y))
    (hne : (x.toList == [83, 105, 103, 110, 97, 116, 117, 114, 101, 46, 83, 105, 103, 65, 108, 103]) = true) (hne2 : (y.toList == [83, 105, 103, 110, 97, 116, 117, 114, 101, 46, 83, 105, 103, 110, 97, 116, 117, 114, 101]) = true)
    (hv1 : w.cell? ⟨g, (n - 2) * 3 + 1, none⟩ = some (.string v1)) (hv2 : w.cell? ⟨g, (n - 1) * 3 + 1, none⟩ = some (.string v2)) (hat : w.cell? ⟨g, (n - 2) * 3 + 2, none⟩ = some (.int .i64 at1)) (hle : at1 ≤ ml) (hlc : ml ≤ mc) :
    Calls Yba.prog 8 #[.slice ma ml mc, .slice (some ⟨g, 0, none⟩) n c] w fun e w' => e = .returned (.tuple #[.slice (some ⟨g, 0, none⟩) (n - 2) c, .pointer (some ⟨w.heap.size, 0, none⟩)]) ∧
      w' = (w.alloc (.cells #[.slice ma at1 mc, .string v1, .string v2] 47)).drew := by
  have h1 : (2 : Int) ≤ (n : Int) := by omega
  have h2 : (n : Int) ≤ (c : Int) := by omega
  have h3 : (0 : Int) ≤ (at1 : Int) := by omega
  have h4 : (at1 : Int) ≤ (mc : Int) := by omega
  have hma : Option.map (fun x => x.add 0) ma = ma := map_add_zero ma
  have e1 : IntKind.i64.wrap ((n : Int) - 2) = (n : Int) - 2 := by rw [IntKind.wrap_i64]; omega
  have e2 : IntKind.i64.wrap ((n : Int) - 1) = (n : Int) - 1 := by rw [IntKind.wrap_i64]; omega
  have e4 : (1 : Int) ≤ (n : Int) := by omega
  have e5 : (n : Int) - 2 < (n : Int) := by omega
  have e6 : (n : Int) - 1 < (n : Int) := by omega
  have e7 : ((n : Int) - 2).toNat = n - 2 := by omega
  have e8 : ((n : Int) - 1).toNat = n - 1 := by omega
  have e9 : (n : Int) - 2 ≤ (c : Int) := by omega
  go_enter Yba.func8, Yba.ntmps8
  go_wp2
  go_region_held3 (fun w' => w'.cell? ⟨g, (n - 2) * 3 + 1, none⟩ = some (.string v1) ∧ w'.cell? ⟨g, (n - 1) * 3 + 1, none⟩ = some (.string v2) ∧ w'.cell? ⟨g, (n - 2) * 3 + 2, none⟩ = some (.int .i64 at1)) (go_keep) (fail)
  go_wp2
  go_ret2
  exact ⟨rfl, rfl⟩
end Go.Proofs.Ybulkcivs
