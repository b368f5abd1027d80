import Derived.Test.YbulkcivsDoorRw
namespace Go.Proofs.YbulkcivsDoor
open Go.RowKit
set_option linter.unusedVariables false
set_option linter.unusedSimpArgs false

/-- City i's two cells. -/
def cityV (lat lon : Nat → Nat) (i : Nat) : Value := if i % 2 = 0 then .float .f64 (lat (i / 2)) else .float .f64 (lon (i / 2))
theorem cityV_lat (lat lon : Nat → Nat) (k : Nat) : cityV lat lon (k * 2) = .float .f64 (lat k) := by
  unfold cityV; rw [if_pos (by omega), show k * 2 / 2 = k by omega]
theorem cityV_lon (lat lon : Nat → Nat) (k : Nat) : cityV lat lon (k * 2 + 1) = .float .f64 (lon k) := by
  unfold cityV; rw [if_neg (by omega), show (k * 2 + 1) / 2 = k by omega]

theorem make_cities (n : Nat) (hn : n ≤ 2000) (w : World) : (Instr.makeSlice 24 (.int .i64 n) (.int .i64 n)).run Ybad.prog w = .ok (.slice (some ⟨w.heap.size, 0, none⟩) n n) (w.alloc (.cells (madeCells #[.float .f64 0, .float .f64 0] (n * 2)) 36)) := by
  obtain ⟨i, hi, hz0, hz1, hz2⟩ := info_parts Ybad.inf36
  have := run_make (P := Ybad.prog) w 24 36 i _ Ybad.underlying24 hi hz0 .i64 .i64 n n (by omega) (by omega) (by rw [hz2]; omega) (by omega)
  have e : (Value.agg #[.float .f64 0, .float .f64 0]).cells = #[.float .f64 0, .float .f64 0] := rfl
  simpa [hz1, e] using this

theorem cities_any (sa : Option Addr) (sb so n sc : Nat) (lat lon : Nat → Nat) (w : World) (hn : n ≤ 64) (hsa : 0 < n → sa = some ⟨sb, so, none⟩)
    (hit : ∀ i, i < n → w.cell? ⟨sb, so + i * 2, none⟩ = some (.float .f64 (lat i)) ∧ w.cell? ⟨sb, so + i * 2 + 1, none⟩ = some (.float .f64 (lon i))) :
    Calls Ybad.prog 5 #[.slice sa n sc] w fun e w' => e = .returned (.slice (some ⟨w.heap.size, 0, none⟩) n n) ∧ Below w.heap.size w w' ∧ w.heap.size < w'.heap.size ∧ ∀ i, i < n → w'.cell? ⟨w.heap.size, i * 2, none⟩ = some (.float .f64 (lat i)) ∧ w'.cell? ⟨w.heap.size, i * 2 + 1, none⟩ = some (.float .f64 (lon i)) := by
  have hn' : (n : Int) ≤ 64 := by omega
  have hmk := make_cities n (by omega) w
  go_enter Ybad.func5, Ybad.ntmps5
  go_wp2
  go_loopw [4] (fun i wr => ∃ k : Nat, k ≤ n ∧ i = .int .i64 k ∧ Below w.heap.size w wr ∧ Row wr w.heap.size 36 (n * 2) (fun i v => i < k * 2 → v = cityV lat lon i)) (fun i _ => n - (intOf i).toNat)
  case atStart =>
    refine ⟨0, Nat.zero_le _, rfl, (Below.refl _ _).alloc (Nat.le_refl _) _, ?_⟩
    have := Row.alloc w (madeCells #[.float .f64 0, .float .f64 0] (n * 2)) 36 (fun i v => i < 0 * 2 → v = cityV lat lon i) (fun i v _ h => by omega)
    rwa [size_madeCells] at this
  case round =>
    obtain ⟨k, hk, rfl, hb, hrow⟩ := hrel
    by_cases hlt : k < n
    · obtain ⟨q0, q1⟩ := hit k hlt
      obtain rfl := hsa (by omega)
      have hlt' : (k : Int) < (n : Int) := by omega
      have hsub : sb < w.heap.size := by
        rcases Nat.lt_or_ge sb w.heap.size with h | h
        · exact h
        · simp [World.cell?, Array.getElem?_eq_none h] at q0
      have HR : Hid (Row wr w.heap.size 36 (n * 2) (fun i v => i < k * 2 → v = cityV lat lon i)) := hrow
      have HB : Hid (Below w.heap.size w wr) := hb
      clear hit hsa hrow hb
      go_wp2
      refine wp_region_obs2 (L := 14) (C := fun b w' => Below w.heap.size w w' ∧ Row w' w.heap.size 36 (n * 2) (fun i v => (i < k * 2 → v = cityV lat lon i) ∧ (b = true → i < (k + 1) * 2 → v = cityV lat lon i)))
        (R := fun j v => v = [.slice (some ⟨w.heap.size, 0, none⟩) n n, .int .i64 k, .slice (some ⟨sb, so, none⟩) n sc, .int .i64 k, .pointer (some ⟨sb, so + k * 2, none⟩), .pointer (some ⟨sb, so + k * 2 + 0, none⟩), .float .f64 (lat k), .slice (some ⟨sb, so, none⟩) n sc, .int .i64 k, .pointer (some ⟨sb, so + k * 2, none⟩), .pointer (some ⟨sb, so + k * 2 + 1, none⟩), .float .f64 (lon k), .agg #[.float .f64 (lat k), .float .f64 (lon k)], .pointer (some ⟨w.heap.size, 0 + k * 2, none⟩)].getD j undef)
        (by kernel_rfl) (by kernel_rfl) ?start ⟨?o0, ?o1, ?o2, ?o3, ?o4, ?o5, ?o6, ?o7, ?o8, ?o9, ?o10, ?o11, ?o12, ?o13, ?o14, trivial⟩ ?fin
      case start => exact ⟨HB.out.drew, (Row.of_heap (W := wr.drew) HR.out rfl).mono fun i v _ h => ⟨h, fun e => by cases e⟩⟩
      case o0 => exact fun b a w' hp hC => LUpon_move hC (hp.rest 3 (by kernel_rfl))
      case o1 => exact fun b a w' hp hC => LUpon_move hC (hp.rest 4 (by kernel_rfl))
      case o2 => exact fun b a w' hp hC => LUpon_move hC (hp.rest 0 (by kernel_rfl))
      case o3 => exact fun b a w' hp hC => LUpon_move hC (hp.rest 4 (by kernel_rfl))
      case o4 => exact fun b a w' hp hC => LUpon_index Ybad.underlying23 (run_size Ybad.inf41) hC (hp.on ⟨2, .data⟩ (by simp) rfl _ 16 rfl rfl) (hp.on ⟨3, .data⟩ (by simp) rfl _ 17 rfl rfl) hlt rfl
      case o5 => exact fun b a w' hp hC => LUpon_field41 hC (hp.on ⟨4, .data⟩ (by simp) rfl _ 18 rfl rfl) (.inl rfl) rfl
      case o6 => exact fun b a w' hp hC => LUpon_load hC (hp.on ⟨5, .data⟩ (by simp) rfl _ 19 rfl rfl) (cell_later hC.1 q0) rfl
      case o7 => exact fun b a w' hp hC => LUpon_move hC (hp.rest 0 (by kernel_rfl))
      case o8 => exact fun b a w' hp hC => LUpon_move hC (hp.rest 4 (by kernel_rfl))
      case o9 => exact fun b a w' hp hC => LUpon_index Ybad.underlying23 (run_size Ybad.inf41) hC (hp.on ⟨7, .data⟩ (by simp) rfl _ 21 rfl rfl) (hp.on ⟨8, .data⟩ (by simp) rfl _ 22 rfl rfl) hlt rfl
      case o10 => exact fun b a w' hp hC => LUpon_field41 hC (hp.on ⟨9, .data⟩ (by simp) rfl _ 23 rfl rfl) (.inr rfl) rfl
      case o11 => exact fun b a w' hp hC => LUpon_load hC (hp.on ⟨10, .data⟩ (by simp) rfl _ 24 rfl rfl) (cell_later hC.1 q1) rfl
      case o12 => exact fun b a w' hp hC => LUpon_build36 hC (hp.on ⟨6, .data⟩ (by simp) rfl _ 20 rfl rfl) (hp.on ⟨11, .data⟩ (by simp) rfl _ 25 rfl rfl) rfl
      case o13 => exact fun b a w' hp hC => LUpon_index Ybad.underlying24 (run_size Ybad.inf36) hC (hp.on ⟨0, .data⟩ (by simp) rfl _ 14 rfl rfl) (hp.on ⟨1, .data⟩ (by simp) rfl _ 15 rfl rfl) hlt rfl
      case o14 =>
        intro b a w' hp hC
        refine LUpon_store36 (hC.2.there _ 2 (by omega)) (hp.on ⟨13, .data⟩ (by simp) rfl _ 27 rfl rfl) (hp.on ⟨12, .data⟩ (by simp) rfl _ 26 rfl rfl) ⟨?_, ?_⟩ rfl
        · exact (hC.1.setCell (Nat.le_refl _) _).setCell (Nat.le_refl _) _
        · refine ((hC.2.set (0 + k * 2) (.float .f64 (lat k))).set (0 + k * 2 + 1) (.float .f64 (lon k))).mono fun i v hi h => ?_
          have key : i < (k + 1) * 2 → v = cityV lat lon i := by
            intro hlt2
            by_cases e1 : i = 0 + k * 2 + 1
            · rw [if_pos e1] at h
              rw [h, e1, Nat.zero_add, cityV_lon]
            · rw [if_neg e1] at h
              by_cases e2 : i = 0 + k * 2
              · rw [if_pos e2] at h
                rw [h, e2, Nat.zero_add, cityV_lat]
              · rw [if_neg e2] at h
                exact h.1 (by omega)
          exact ⟨fun h' => key (by omega), fun _ => key⟩
      case fin =>
        intro a w' he hC
        have hR : Row w' w.heap.size 36 (n * 2) (fun i v => i < (k + 1) * 2 → v = cityV lat lon i) := hC.2.mono fun i v _ h => h.2 rfl
        obtain rfl := he.of_list (c := 14) (by kernel_rfl)
        simp only [putAll, List.headD, List.tail]
        have HR2 : Hid (Row w' w.heap.size 36 (n * 2) (fun i v => i < (k + 1) * 2 → v = cityV lat lon i)) := hR
        have HB2 : Hid (Below w.heap.size w w') := hC.1
        clear hR hC he
        go_wp2
        go_roundw
        case rel => exact ⟨k + 1, by omega, by go_num, HB2.out, HR2.out⟩
        case measure => simp [intOf]; omega
    · clear hit
      go_wp2
      go_ret
      refine ⟨rfl, hb, hrow.lt, fun i hi => ?_⟩
      obtain rfl : k = n := by omega
      obtain ⟨v, hv, hv'⟩ := hrow.cell (i := i * 2) (by omega)
      obtain ⟨u, hu, hu'⟩ := hrow.cell (i := i * 2 + 1) (by omega)
      rw [hv, hu, hv' (by omega), hu' (by omega), cityV_lat, cityV_lon]
      exact ⟨rfl, rfl⟩
end Go.Proofs.YbulkcivsDoor
