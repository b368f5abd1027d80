import Derived.Test.YbulkcivsRows
import Derived.WalkKit
import Derived.WalkSpells
import Derived.WalkLawsBesides
namespace Go.Proofs.Ybulkcivs
open Go.RowKit

def sigAlgB : ByteArray := { data := #[83, 105, 103, 110, 97, 116, 117, 114, 101, 46, 83, 105, 103, 65, 108, 103] }
def signatureB : ByteArray := { data := #[83, 105, 103, 110, 97, 116, 117, 114, 101, 46, 83, 105, 103, 110, 97, 116, 117, 114, 101] }
def responseB : ByteArray := { data := #[82, 101, 115, 112, 111, 110, 115, 101, 73, 100] }
def nameOf (s : Int) (raw : ByteArray) : ByteArray :=
  if s % 4 = 0 then sigAlgB else if s % 4 = 1 then signatureB else if s % 4 = 2 then responseB else raw

set_option maxHeartbeats 400000 in
theorem name_any (s : Int) (raw : ByteArray) (h0 : 0 ≤ s) (h1 : s ≤ 255) (w : World) :
    Calls Yba.prog 7 #[.int .u8 s, .string raw] w fun e w' => e = .returned (.string (nameOf s raw)) ∧ w' = w := by
  unfold nameOf
  by_cases c0 : s % 4 = 0
  · rw [if_pos c0]
    go_enter Yba.func7, Yba.ntmps7
    go_wp2
    go_ret
    exact ⟨rfl, rfl⟩
  rw [if_neg c0]
  by_cases c1 : s % 4 = 1
  · rw [if_pos c1]
    go_enter Yba.func7, Yba.ntmps7
    go_wp2
    go_ret
    exact ⟨rfl, rfl⟩
  rw [if_neg c1]
  by_cases c2 : s % 4 = 2
  · rw [if_pos c2]
    go_enter Yba.func7, Yba.ntmps7
    go_wp2
    go_ret
    exact ⟨rfl, rfl⟩
  rw [if_neg c2]
  go_enter Yba.func7, Yba.ntmps7
  go_wp2
  go_ret
  exact ⟨rfl, rfl⟩
end Go.Proofs.Ybulkcivs
