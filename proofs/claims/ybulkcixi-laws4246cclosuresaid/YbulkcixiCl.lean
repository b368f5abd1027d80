/-
  The law of the closure, walked.
-/
import Derived.Test.YbulkcixiMd
namespace Go.Proofs.Ybulkcixi
open Go.RowKit
set_option linter.unusedVariables false
set_option linter.unusedSimpArgs false

theorem LUpon_neq4 {C : World → Prop} {S : Value → Prop} {a : Act} {w : World} {d : Option Tmp} {ty : TypeId} {pos : String} {af : Array Edge} {x y : Operand} {X : Bool} (hC : C w) (hx : a.eval x = .bool X) (hy : a.eval y = .bool X) (hS : S (.bool false)) :
    LUpon Yba.prog C S ((execOp a.eval { dst := d, op := .binOp .neq 4 x y 4, type := ty, pos := pos, after := af, guard := none }).run Yba.prog w) := by
  have hu := Yba.underlying4
  obtain ⟨ρ, hρ⟩ : ∃ ρ, a.eval = ρ := ⟨_, rfl⟩
  rw [hρ] at hx hy ⊢
  simp [execOp, hx, hy, go_sem, LUpon]
  exact ⟨hS, hC⟩

theorem closure_long (sa : Option Addr) (n sc : Nat) (w : World) (hn : 1024 < n) : Calls Yba.prog 5 #[.slice sa n sc] w fun e w' => e = .returned (.bool true) ∧ Below w.heap.size w w' := by
  have hn' : (1024 : Int) < (n : Int) := by omega
  go_enter Yba.func5, Yba.ntmps5
  go_wp2
  go_ret
  exact ⟨rfl, Below.refl _ _⟩

set_option maxRecDepth 100000 in
set_option maxHeartbeats 4000000 in
theorem closure_any (sa : Option Addr) (sb so n sc : Nat) (x : Nat → InD) (w : World) (hn : n ≤ 1024) (hsa : 0 < n → sa = some ⟨sb, so, none⟩)
    (hlt : ∀ i, i < n → (x i).f < 256 ∧ (x i).o < 256 ∧ (x i).k < 256 ∧ (x i).v < 256 ∧ (x i).e < 256)
    (hit : ∀ i, i < n → ∀ j v, (inCells (x i))[j]? = some v → w.cell? ⟨sb, so + i * 7 + j, none⟩ = some v) :
    Calls Yba.prog 5 #[.slice sa n sc] w fun e w' => e = .returned (.bool true) ∧ Below w.heap.size w w' := by
  have hn' : ¬ (1024 : Int) < (n : Int) := by omega
  obtain ⟨B1, hB1⟩ : ∃ B1, w.heap.size = B1 := ⟨_, rfl⟩
  have HX : Hid (Calls Yba.prog 10 #[.slice sa n sc] w fun e w' => e = .returned (.slice (some ⟨B1, 0, none⟩) n n) ∧ Below B1 w w' ∧ Calls40 w' B1 n (fun i => mkCall (x i))) := by
    rw [← hB1]
    exact build_any sa sb so n sc x w hn hsa hlt hit
  clear hit hlt hsa
  go_enter Yba.func5, Yba.ntmps5
  rw [hB1]
  go_wp2_with (first
    | (go_at_call 10
       refine HX.out.mono ?_
       rintro e W2 ⟨rfl, hb2, hc2⟩
       have hs2 : B1 < W2.heap.size := Row.lt hc2
       have HB2 : Hid (Below B1 w W2) := hb2
       have HC2 : Hid (Calls40 W2 B1 n (fun i => mkCall (x i))) := hc2
       clear hb2 hc2 HX)
    | (go_at_call 11
       refine (took_any B1 n n _ W2 hn HC2.out (by omega)).mono ?_
       rintro e W3 ⟨tb, T, rfl, hb3, htb, hL, hT⟩
       have HB3 : Hid (Below B1 w W3) := HB2.out.trans (hb3.mono (by omega))
       have HC3 : Hid (Calls40 W3 B1 n (fun i => mkCall (x i))) := Row.later HC2.out hb3 (by omega)
       have HL3 : Hid (Least n (fun i => mkCall (x i)) T) := hL
       have HT3 : Hid (Row W3 tb 4 n (fun i v => v = .bool (T i))) := hT
       have hs3 : tb < W3.heap.size := hT.lt
       clear hb3 hL hT)
    | (go_at_call 12
       refine (zmodel_any B1 n n _ W3 hn HC3.out (by omega)).mono ?_
       rintro e W4 ⟨tc, U, rfl, hb4, htc, hL, hT⟩
       have HB4 : Hid (Below B1 w W4) := HB3.out.trans (hb4.mono (by omega))
       have HU4 : Hid (∀ i, i < n → T i = U i) := fun i hi => HL3.out.agree hL i hi
       have HT4 : Hid (Row W4 tb 4 n (fun i v => v = .bool (T i))) := Row.later HT3.out hb4 (by omega)
       have HV4 : Hid (Row W4 tc 4 n (fun i v => v = .bool (U i))) := hT
       have hs4 : tc < W4.heap.size := hT.lt
       clear hb4 hL hT))
  go_loopw [6] (fun i wr => ∃ k : Nat, k ≤ n ∧ i = .int .i64 k ∧ Below W4.heap.size W4 wr) (fun i _ => n - (intOf i).toNat)
  case atStart => exact ⟨0, Nat.zero_le _, rfl, Below.refl _ _⟩
  case round =>
    obtain ⟨k, hk, rfl, hb⟩ := hrel
    by_cases hlt : k < n
    · have hlt' : (k : Int) < (n : Int) := by omega
      have hwk : IntKind.i64.wrap ((k : Int) + 1) = (k : Int) + 1 := by rw [IntKind.wrap_i64]; omega
      have HBR : Hid (Below W4.heap.size W4 wr) := hb
      clear hb
      go_wp2
      have HTU : Hid (U k = T k) := (HU4.out k hlt).symm
      refine wp_region_obs2 (L := 8) (C := fun b w' => Below W4.heap.size W4 w')
        (R := fun o v => v = [.slice (some ⟨tb, 0, none⟩) n n, .int .i64 k, .pointer (some ⟨tb, 0 + k * 1, none⟩), .bool (T k), .slice (some ⟨tc, 0, none⟩) n n, .int .i64 k, .pointer (some ⟨tc, 0 + k * 1, none⟩), .bool (T k), .bool false].getD o undef)
        (by kernel_rfl) (by kernel_rfl) HBR.out.drew ⟨?o0, ?o1, ?o2, ?o3, ?o4, ?o5, ?o6, ?o7, ?o8, trivial⟩ ?fin
      case o0 => exact fun b a w' hp hC => LUpon_move hC (hp.rest 4 (by kernel_rfl))
      case o1 => exact fun b a w' hp hC => LUpon_move hC (hp.rest 6 (by kernel_rfl))
      case o2 => exact fun b a w' hp hC => LUpon_index Yba.underlying32 (run_size Yba.inf4) hC (hp.on ⟨0, .data⟩ (by simp) rfl _ 27 rfl rfl) (hp.on ⟨1, .data⟩ (by simp) rfl _ 28 rfl rfl) hlt rfl
      case o3 => exact fun b a w' hp hC => LUpon_load4 hC (hp.on ⟨2, .data⟩ (by simp) rfl _ 29 rfl rfl) (by have := cell_row1 (F := fun i => .bool (T i)) (HT4.out.later hC (by omega)) hlt; rwa [Nat.zero_add, Nat.mul_one]) rfl
      case o4 => exact fun b a w' hp hC => LUpon_move hC (hp.rest 5 (by kernel_rfl))
      case o5 => exact fun b a w' hp hC => LUpon_move hC (hp.rest 6 (by kernel_rfl))
      case o6 => exact fun b a w' hp hC => LUpon_index Yba.underlying32 (run_size Yba.inf4) hC (hp.on ⟨4, .data⟩ (by simp) rfl _ 31 rfl rfl) (hp.on ⟨5, .data⟩ (by simp) rfl _ 32 rfl rfl) hlt rfl
      case o7 => exact fun b a w' hp hC => LUpon_load4 hC (hp.on ⟨6, .data⟩ (by simp) rfl _ 33 rfl rfl) (by have := cell_row1 (F := fun i => .bool (U i)) (HV4.out.later hC (by omega)) hlt; rw [HTU.out] at this; rwa [Nat.zero_add, Nat.mul_one]) rfl
      case o8 => exact fun b a w' hp hC => LUpon_neq4 hC (hp.on ⟨3, .data⟩ (by simp) rfl _ 30 rfl rfl) (hp.on ⟨7, .data⟩ (by simp) rfl _ 34 rfl rfl) rfl
      case fin =>
        intro a w' he hC
        have HBW : Hid (Below W4.heap.size W4 w') := hC
        clear hC
        obtain rfl := he.of_list (c := 8) (by kernel_rfl)
        clear he
        simp only [putAll, List.headD, List.tail, Act.put, List.setIfInBounds_toArray, List.set_cons_succ, List.set_cons_zero]
        go_wp2
        go_roundw
        case rel => exact ⟨k + 1, by omega, by go_num, HBW.out⟩
        case measure => simp [intOf]; omega
    · obtain rfl : k = n := by omega
      have hlt' : ¬ (k : Int) < (k : Int) := by omega
      have HBR : Hid (Below W4.heap.size W4 wr) := hb
      clear hb
      go_wp2
      go_ret
      exact ⟨rfl, HB4.out.trans (HBR.out.mono (by omega))⟩
end Go.Proofs.Ybulkcixi
