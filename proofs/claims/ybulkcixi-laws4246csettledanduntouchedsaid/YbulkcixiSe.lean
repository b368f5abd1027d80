/-
  The law of the settled calls, walked.
-/
import Derived.Test.YbulkcixiE4
namespace Go.Proofs.Ybulkcixi
open Go.RowKit
set_option linter.unusedVariables false
set_option linter.unusedSimpArgs false

theorem settled_long (sa : Option Addr) (n sc : Nat) (w : World) (hn : 1024 < n) : Calls Yba.prog 6 #[.slice sa n sc] w fun e w' => e = .returned (.bool true) ∧ Below w.heap.size w w' := by
  have hn' : (1024 : Int) < (n : Int) := by omega
  go_enter Yba.func6, Yba.ntmps6
  go_wp2
  go_ret
  exact ⟨rfl, Below.refl _ _⟩

set_option maxRecDepth 100000 in
set_option maxHeartbeats 4000000 in
theorem settled_any (sa : Option Addr) (sb so n sc : Nat) (x : Nat → InD) (w : World) (hn : n ≤ 1024) (hsa : 0 < n → sa = some ⟨sb, so, none⟩)
    (hlt : ∀ i, i < n → (x i).f < 256 ∧ (x i).o < 256 ∧ (x i).k < 256 ∧ (x i).v < 256 ∧ (x i).e < 256)
    (hit : ∀ i, i < n → ∀ j v, (inCells (x i))[j]? = some v → w.cell? ⟨sb, so + i * 7 + j, none⟩ = some v) :
    Calls Yba.prog 6 #[.slice sa n sc] w fun e w' => e = .returned (.bool true) ∧ Below w.heap.size w w' := by
  have hn' : ¬ (1024 : Int) < (n : Int) := by omega
  have HIT : Hid (∀ i, i < n → ∀ j v, (inCells (x i))[j]? = some v → w.cell? ⟨sb, so + i * 7 + j, none⟩ = some v) := hit
  have HLT : Hid (∀ i, i < n → (x i).f < 256 ∧ (x i).o < 256 ∧ (x i).k < 256 ∧ (x i).v < 256 ∧ (x i).e < 256) := hlt
  have HSA : Hid (0 < n → sa = some ⟨sb, so, none⟩) := hsa
  clear hit hlt hsa
  go_enter Yba.func6, Yba.ntmps6
  obtain ⟨B1, hB1⟩ : ∃ B1, w.heap.size = B1 := ⟨_, rfl⟩
  have HX := @build_any sa sb so n sc x w hn HSA.out HLT.out HIT.out
  have HX' : Hid (Calls Yba.prog 10 #[.slice sa n sc] w fun e w' => e = .returned (.slice (some ⟨B1, 0, none⟩) n n) ∧ Below B1 w w' ∧ Calls40 w' B1 n (fun i => mkCall (x i))) := by rw [← hB1]; exact HX
  clear HX
  rw [hB1]
  go_wp2_with (first
    | (go_at_call 10
       refine HX'.out.mono ?_
       rintro e W1 ⟨rfl, hb1, hc1⟩
       have hs1 : B1 < W1.heap.size := Row.lt hc1
       obtain ⟨B2, hB2⟩ : ∃ B2, W1.heap.size = B2 := ⟨_, rfl⟩
       have HX2 : Hid (Calls Yba.prog 10 #[.slice sa n sc] W1 fun e w' => e = .returned (.slice (some ⟨B2, 0, none⟩) n n) ∧ Below B2 W1 w' ∧ Calls40 w' B2 n (fun i => mkCall (x i))) := by
         rw [← hB2]
         exact build_any sa sb so n sc x W1 hn HSA.out HLT.out (fun i hi j v hv => cell_later (by rw [hB1]; exact hb1) (HIT.out i hi j v hv))
       rw [hB2] at hs1
       have HB1 : Hid (Below B1 w W1) := hb1
       have HC1 : Hid (Calls40 W1 B1 n (fun i => mkCall (x i))) := hc1
       clear hb1 hc1 HX')
    | (go_at_call 10
       refine HX2.out.mono ?_
       rintro e W2 ⟨rfl, hb2, hc2⟩
       have hs2 : B2 < W2.heap.size := Row.lt hc2
       have HB2 : Hid (Below B1 w W2) := HB1.out.trans (hb2.mono (by omega))
       have HC2 : Hid (Calls40 W2 B1 n (fun i => mkCall (x i))) := Row.later HC1.out hb2 hs1
       have HD2 : Hid (Calls40 W2 B2 n (fun i => mkCall (x i))) := hc2
       clear hb2 hc2 HX2)
    | (go_at_call 11
       refine (took_any B1 n n _ W2 hn HC2.out (by omega)).mono ?_
       rintro e W3 ⟨tb, T, rfl, hb3, htb, hL, hT⟩
       have HB3 : Hid (Below B1 w W3) := HB2.out.trans (hb3.mono (by omega))
       have HC3 : Hid (Calls40 W3 B1 n (fun i => mkCall (x i))) := Row.later HC2.out hb3 (by omega)
       have HD3 : Hid (Calls40 W3 B2 n (fun i => mkCall (x i))) := Row.later HD2.out hb3 (by omega)
       have HL3 : Hid (Least n (fun i => mkCall (x i)) T) := hL
       have HT3 : Hid (Row W3 tb 4 n (fun i v => v = .bool (T i))) := hT
       have hs3 : tb < W3.heap.size := hT.lt
       clear hb3 hL hT))
  go_loopw [6] (fun i wr => ∃ k : Nat, k ≤ n ∧ i = .int .i64 k ∧ Below W3.heap.size W3 wr) (fun i _ => n - (intOf i).toNat)
  case atStart => exact ⟨0, Nat.zero_le _, rfl, Below.refl _ _⟩
  case round =>
    obtain ⟨k, hk, rfl, hb⟩ := hrel
    by_cases hlt : k < n
    · have hlt' : (k : Int) < (n : Int) := by omega
      have hwk : IntKind.i64.wrap ((k : Int) + 1) = (k : Int) + 1 := by rw [IntKind.wrap_i64]; omega
      have HBR : Hid (Below W3.heap.size W3 wr) := hb
      clear hb
      go_wp2
      obtain ⟨c, hc⟩ : ∃ c, mkCall (x k) = c := ⟨_, rfl⟩
      have cl : ∀ (W : World), Below W3.heap.size W3 W → ∀ j, j < 12 → W.cell? ⟨B1, 0 + k * 12 + j, none⟩ = some ((callCells c).getD j undef) := fun W hW j hj => by
        have := cells12 (cs := fun i => mkCall (x i)) (Row.later HC3.out hW (by omega)) hlt j hj
        rw [hc] at this
        rw [Nat.zero_add]; exact this
      have dl : ∀ (W : World), Below W3.heap.size W3 W → ∀ j, j < 12 → W.cell? ⟨B2, 0 + k * 12 + j, none⟩ = some ((callCells c).getD j undef) := fun W hW j hj => by
        have := cells12 (cs := fun i => mkCall (x i)) (Row.later HD3.out hW (by omega)) hlt j hj
        rw [hc] at this
        rw [Nat.zero_add]; exact this
      have CL : Hid (∀ (W : World), Below W3.heap.size W3 W → ∀ j, j < 12 → W.cell? ⟨B1, 0 + k * 12 + j, none⟩ = some ((callCells c).getD j undef)) := cl
      have DL : Hid (∀ (W : World), Below W3.heap.size W3 W → ∀ j, j < 12 → W.cell? ⟨B2, 0 + k * 12 + j, none⟩ = some ((callCells c).getD j undef)) := dl
      clear cl dl
      refine wp_region_obs2 (L := 8) (C := fun b w' => Below W3.heap.size W3 w')
        (R := fun o v => v = [.slice (some ⟨B1, 0, none⟩) n n, .int .i64 k, .pointer (some ⟨B1, 0 + k * 12, none⟩), .agg (callCells c).toArray, .slice (some ⟨B2, 0, none⟩) n n, .int .i64 k, .pointer (some ⟨B2, 0 + k * 12, none⟩), .agg (callCells c).toArray, .bool false].getD o undef)
        (by kernel_rfl) (by kernel_rfl) HBR.out.drew ⟨?o0, ?o1, ?o2, ?o3, ?o4, ?o5, ?o6, ?o7, ?o8, trivial⟩ ?fin
      case o0 => exact fun b a w' hp hC => LUpon_move hC (hp.rest 3 (by kernel_rfl))
      case o1 => exact fun b a w' hp hC => LUpon_move hC (hp.rest 6 (by kernel_rfl))
      case o2 => exact fun b a w' hp hC => LUpon_index Yba.underlying30 (run_size Yba.inf40) hC (hp.on ⟨0, .data⟩ (by simp) rfl _ 28 rfl rfl) (hp.on ⟨1, .data⟩ (by simp) rfl _ 29 rfl rfl) hlt rfl
      case o3 => exact fun b a w' hp hC => LUpon_load40o hC (hp.on ⟨2, .data⟩ (by simp) rfl _ 30 rfl rfl) (CL.out w' hC) rfl
      case o4 => exact fun b a w' hp hC => LUpon_move hC (hp.rest 4 (by kernel_rfl))
      case o5 => exact fun b a w' hp hC => LUpon_move hC (hp.rest 6 (by kernel_rfl))
      case o6 => exact fun b a w' hp hC => LUpon_index Yba.underlying30 (run_size Yba.inf40) hC (hp.on ⟨4, .data⟩ (by simp) rfl _ 32 rfl rfl) (hp.on ⟨5, .data⟩ (by simp) rfl _ 33 rfl rfl) hlt rfl
      case o7 => exact fun b a w' hp hC => LUpon_load40o hC (hp.on ⟨6, .data⟩ (by simp) rfl _ 34 rfl rfl) (DL.out w' hC) rfl
      case o8 => exact fun b a w' hp hC => LUpon_neq40 hC (hp.on ⟨3, .data⟩ (by simp) rfl _ 31 rfl rfl) (hp.on ⟨7, .data⟩ (by simp) rfl _ 35 rfl rfl) rfl
      case fin =>
        intro a w' he hC
        have HBW : Hid (Below W3.heap.size W3 w') := hC
        have q : ∀ j, j < 12 → w'.cell? ⟨B1, k * 12 + j, none⟩ = some ((callCells c).getD j undef) := fun j hj => by have := CL.out w' hC j hj; rwa [Nat.zero_add] at this
        have hsw : W3.heap.size ≤ w'.heap.size := hC.size
        clear hC
        obtain rfl := he.of_list (c := 8) (by kernel_rfl)
        clear he
        have q0 : w'.cell? ⟨B1, k * 12, none⟩ = some (.string procS) := q 0 (by omega)
        have q1 : w'.cell? ⟨B1, k * 12 + 1, none⟩ = some (.int .u8 c.f) := q 1 (by omega)
        have q2 : w'.cell? ⟨B1, k * 12 + 2, none⟩ = some (.string c.key) := q 2 (by omega)
        have q3 : w'.cell? ⟨B1, k * 12 + 3, none⟩ = some (.int .i64 c.vn) := q 3 (by omega)
        have q4 : w'.cell? ⟨B1, k * 12 + 4, none⟩ = some (.bool c.vv) := q 4 (by omega)
        have q5 : w'.cell? ⟨B1, k * 12 + 5, none⟩ = some (.int .i64 c.en) := q 5 (by omega)
        have q6 : w'.cell? ⟨B1, k * 12 + 6, none⟩ = some (.bool c.ev) := q 6 (by omega)
        have q7 : w'.cell? ⟨B1, k * 12 + 7, none⟩ = some (.int .u8 c.oc) := q 7 (by omega)
        have q8 : w'.cell? ⟨B1, k * 12 + 8, none⟩ = some (.int .i64 0) := q 8 (by omega)
        have q9 : w'.cell? ⟨B1, k * 12 + 9, none⟩ = some (.int .i64 0) := q 9 (by omega)
        have q10 : w'.cell? ⟨B1, k * 12 + 10, none⟩ = some (.int .i64 0) := q 10 (by omega)
        have q11 : w'.cell? ⟨B1, k * 12 + 11, none⟩ = some (.int .i64 0) := q 11 (by omega)
        clear q CL DL
        simp only [putAll, List.headD, List.tail, Act.put, List.setIfInBounds_toArray, List.set_cons_succ, List.set_cons_zero]
        go_wp2_with (rw [st_guard])
        refine law_store 40 40 w'.heap.size (callCells c) (fun _ _ => True) (info_size Yba.inf40) (by rfl) (by rfl) (Row.alloc _ _ _ (fun _ _ => True) (fun _ _ _ => trivial)) (by rfl) ?_
        intro W4 ht4 hp4
        obtain ⟨f, hf⟩ : ∃ f, w'.heap.size = f := ⟨_, rfl⟩
        have hb4 : Below f w' W4 := by
          rw [← hf]
          exact Below.trans ((Below.refl _ _).alloc (Nat.le_refl _) _) ht4.below
        rw [hf] at hp4 hsw
        have HB4 : Hid (Below W3.heap.size W3 W4) := HBW.out.trans (hb4.mono (by omega))
        have g1 : W4.cell? ⟨f, 1, none⟩ = some (.int .u8 c.f) := cell_row1 hp4 (i := 1) (by show 1 < 12; omega)
        have g7 : W4.cell? ⟨f, 7, none⟩ = some (.int .u8 c.oc) := cell_row1 hp4 (i := 7) (by show 7 < 12; omega)
        have t0 : W4.cell? ⟨tb, k, none⟩ = some (.bool (T k)) := cell_row1 (F := fun i => .bool (T i)) (HT3.out.later HB4.out hs3) hlt
        obtain ⟨l1, l2, l3⟩ := HL3.out.settled k hlt
        simp only [hc] at l1 l2 l3
        rw [hf]
        clear q0 q1 q2 q3 q4 q5 q6 q7 q8 q9 q10 q11 ht4 hp4 hb4 HBW
        by_cases o1 : c.oc = 1
        · rw [l1 o1] at t0
          rw [o1] at g7
          go_wp2
          go_roundw
          case rel => exact ⟨k + 1, by omega, by go_num, HB4.out⟩
          case measure => simp [intOf]; omega
        · have o1b : (c.oc == 1) = false := by simp [o1]
          by_cases o2 : c.oc = 2
          · rw [l2 o2] at t0
            rw [o2] at g7
            go_wp2
            go_roundw
            case rel => exact ⟨k + 1, by omega, by go_num, HB4.out⟩
            case measure => simp [intOf]; omega
          · have o2b : (c.oc == 2) = false := by simp [o2]
            by_cases f1 : c.f = 1
            · rw [l3 o1 f1] at t0
              rw [f1] at g1
              clear l1 l2 l3
              go_wp2
              go_roundw
              case rel => exact ⟨k + 1, by omega, by go_num, HB4.out⟩
              case measure => simp [intOf]; omega
            · have f1b : (c.f == 1) = false := by simp [f1]
              clear l1 l2 l3
              go_wp2
              go_roundw
              case rel => exact ⟨k + 1, by omega, by go_num, HB4.out⟩
              case measure => simp [intOf]; omega
    · obtain rfl : k = n := by omega
      have hlt' : ¬ (k : Int) < (k : Int) := by omega
      have HBR : Hid (Below W3.heap.size W3 wr) := hb
      clear hb
      go_wp2
      go_ret
      exact ⟨rfl, HB3.out.trans (HBR.out.mono (by omega))⟩
end Go.Proofs.Ybulkcixi
