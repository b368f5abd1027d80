import Derived.Test.YbulkcivsDoorSt
namespace Go.Proofs.YbulkcivsDoor
open Go.RowKit
set_option linter.unusedVariables false
set_option linter.unusedSimpArgs false

/-- What newPeers hands back. -/
def PeersRes (D : Nat → Nat → Option Nat) (cbk c cc : Nat) (isps : Int) (pen : Nat) (n : Int) (rs : Nat) (w : World) (e : Ending) (w' : World) : Prop :=
  ∃ mean rate km, e = .returned (.agg #[.slice (some ⟨cbk, 0, none⟩) c cc, .int .i64 isps, .float .f64 pen, .int .i64 n, .float .f64 mean, .float .f64 rate, km]) ∧
    cl mean = fdiv (cl (floatOfInt .f64 ((totN n.toNat : Nat) : Int))) (cl (floatOfInt .f64 n)) ∧ mean < 2 ^ 64 ∧ cl rate = fmul (cl rs) (cl mean) ∧ rate < 2 ^ 64 ∧ Below w.heap.size w w' ∧
    ((1024 < c ∧ km = .slice none 0 0) ∨ (c ≤ 1024 ∧ ∃ kb, w.heap.size ≤ kb ∧ km = .slice (some ⟨kb, 0, none⟩) (c * c) (c * c) ∧ Row w' kb 22 (c * c) (fun i v => FV (D (i / c) (i % c)) v)))

theorem clsL_up (r : Nat) : clsL.getD (clsN r * 2) 0 = (upN r : Int) := by
  unfold clsN upN
  split
  · rfl
  · split
    · rfl
    · split <;> rfl
theorem clsN_lt (r : Nat) : clsN r < 4 := by
  unfold clsN
  split
  · omega
  · split
    · omega
    · split <;> omega

theorem make_floats (q : Nat) (hq : q ≤ 2000000) (w : World) : (Instr.makeSlice 29 (.int .i64 q) (.int .i64 q)).run Ybad.prog w = .ok (.slice (some ⟨w.heap.size, 0, none⟩) q q) (w.alloc (.cells (madeCells #[.float .f64 0] q) 22)) := by
  obtain ⟨i, hi, hz0, hz1, hz2⟩ := info_parts Ybad.inf22
  have := run_make (P := Ybad.prog) w 29 22 i _ Ybad.underlying29 hi hz0 .i64 .i64 q q (by omega) (by omega) (by rw [hz2]; omega) (by omega)
  have e : (Value.float .f64 0).cells = #[.float .f64 0] := rfl
  simpa [hz1, e] using this
theorem cells2 {W : World} {B : Nat} {t : TypeId} {v0 v1 : Value} (h : Row W B t 2 (fun i v => v = [v0, v1].getD i undef)) : W.cell? ⟨B, 0, none⟩ = some v0 ∧ W.cell? ⟨B, 0 + 1, none⟩ = some v1 :=
  ⟨cell_row1 h (i := 0) (by omega), cell_row1 h (i := 1) (by omega)⟩

set_option maxRecDepth 100000 in
set_option maxHeartbeats 4000000 in
theorem peers_any (D : Nat → Nat → Option Nat) (cbk c cc : Nat) (lat lon : Nat → Nat) (isps : Int) (pen : Nat) (n : Int) (rs : Nat) (w : World) (hn : n ≤ 100000) (hc : c ≤ 1025) (hT : Tabs w) (lb lo lc : Nat) (hCl : Clss w lb lo lc)
    (hit : ∀ i, i < c → w.cell? ⟨cbk, i * 2, none⟩ = some (.float .f64 (lat i)) ∧ w.cell? ⟨cbk, i * 2 + 1, none⟩ = some (.float .f64 (lon i)))
    (hD : ∀ i j, i < c → j < c → ∀ w, Tabs w → Calls Ybad.prog 9 #[.agg #[.float .f64 (lat i), .float .f64 (lon i)], .agg #[.float .f64 (lat j), .float .f64 (lon j)]] w fun e w' => KmRes w (D i j) e w') :
    Calls Ybad.prog 7 #[.agg #[.slice (some ⟨cbk, 0, none⟩) c cc, .int .i64 isps, .float .f64 pen], .int .i64 n, .float .f64 rs] w fun e w' => PeersRes D cbk c cc isps pen n rs w e w' := by
  have HT : Hid (Tabs w) := hT
  have HC : Hid (Clss w lb lo lc) := hCl
  have HI : Hid (∀ i, i < c → w.cell? ⟨cbk, i * 2, none⟩ = some (.float .f64 (lat i)) ∧ w.cell? ⟨cbk, i * 2 + 1, none⟩ = some (.float .f64 (lon i))) := hit
  have HD : Hid (∀ i j, i < c → j < c → ∀ w, Tabs w → Calls Ybad.prog 9 #[.agg #[.float .f64 (lat i), .float .f64 (lon i)], .agg #[.float .f64 (lat j), .float .f64 (lon j)]] w fun e w' => KmRes w (D i j) e w') := hD
  clear hT hCl hit hD
  go_enter Ybad.func7, Ybad.ntmps7
  go_wp2
  obtain ⟨W, hW⟩ : ∃ W, W = (w.alloc (Obj.cells #[.slice (some ⟨cbk, 0, none⟩) c cc, .int .i64 isps, .float .f64 pen] 28)).alloc (Obj.cells #[.slice none 0 0, .int .i64 0, .float .f64 0, .int .i64 0, .float .f64 0, .float .f64 0, .slice none 0 0] 31) := ⟨_, rfl⟩
  rw [← hW]
  have hbel : Below w.heap.size w W := by rw [hW]; exact ((Below.refl _ _).alloc (Nat.le_refl _) _).alloc (by simp) _
  have hr3 : Hid (Row W w.heap.size 28 3 (fun i v => v = [.slice (some ⟨cbk, 0, none⟩) c cc, .int .i64 isps, .float .f64 pen].getD i undef)) := by
    refine ⟨#[.slice (some ⟨cbk, 0, none⟩) c cc, .int .i64 isps, .float .f64 pen], ?_, rfl, fun i v h => ?_⟩
    · rw [hW, Below.heap_alloc _ _ _ (by simp)]; exact heap_alloc_new w _
    · rcases i with _ | _ | _ | i <;> simp at h <;> exact h.symm
  have hr6 : Hid (Row W (w.heap.size + 1) 31 7 (fun i v => True)) := by
    refine ⟨#[.slice none 0 0, .int .i64 0, .float .f64 0, .int .i64 0, .float .f64 0, .float .f64 0, .slice none 0 0], ?_, rfl, fun i v h => trivial⟩
    have := heap_alloc_new (w.alloc (Obj.cells #[.slice (some ⟨cbk, 0, none⟩) c cc, .int .i64 isps, .float .f64 pen] 28)) (Obj.cells #[.slice none 0 0, .int .i64 0, .float .f64 0, .int .i64 0, .float .f64 0, .float .f64 0, .slice none 0 0] 31)
    rw [show (w.alloc (Obj.cells #[.slice (some ⟨cbk, 0, none⟩) c cc, .int .i64 isps, .float .f64 pen] 28)).heap.size = w.heap.size + 1 by simp] at this
    rw [hW]; exact this
  have hsz : W.heap.size = w.heap.size + 2 := by rw [hW]; simp
  clear hW
  go_loopw [7, 17] (fun v i wr => ∃ k : Nat, (k : Int) ≤ max n 0 ∧ v = .int .i64 (totN k) ∧ i = .int .i64 k ∧ Below W.heap.size W wr) (fun _ i _ => n.toNat - (intOf i).toNat)
  case atStart => exact ⟨0, by omega, rfl, rfl, Below.refl _ _⟩
  case round =>
    obtain ⟨k, hk, rfl, rfl, hb⟩ := hrel
    by_cases hlt : (k : Int) < n
    · have hcl : Clss wr lb lo lc := (HC.out.later hbel).later hb
      have hHC : Hid (Clss wr lb lo lc) := hcl
      have hk5 : k ≤ 100000 := by omega
      have hr4 := clsN_lt (k % 20)
      have hup : Hid (wr.cell? ⟨lb, lo + clsN (k % 20) * 2, none⟩ = some (.int .i64 (upN (k % 20)))) := by
        have := hcl.cells (clsN (k % 20) * 2) (by omega)
        rw [clsL_up] at this
        exact this
      have hhd : Hid (wr.cell? ⟨0, 0, none⟩ = some (.slice (some ⟨lb, lo, none⟩) 4 lc)) := hcl.head
      have hwrap : IntKind.i64.wrap ((totN k : Int) + (upN (k % 20) : Int)) = ((totN (k + 1) : Nat) : Int) := by
        have h1 := totN_le (k + 1)
        have h2 : totN (k + 1) = totN k + upN (k % 20) := rfl
        rw [IntKind.wrap_i64]; omega
      have HB : Hid (Below W.heap.size W wr) := hb
      clear hcl hb
      go_wp2
      refine wp_region_obs2 (L := 0) (C := fun b w' => Below wr.heap.size wr w')
        (R := fun j v => v = [.int .i64 (totN k), .slice (some ⟨lb, lo, none⟩) 4 lc, .int .i64 k, .int .i64 (clsN (k % 20)), .pointer (some ⟨lb, lo + clsN (k % 20) * 2, none⟩), .pointer (some ⟨lb, lo + clsN (k % 20) * 2, none⟩), .int .i64 (upN (k % 20)), .int .i64 (totN (k + 1)), .int .i64 (totN (k + 1))].getD j undef)
        (by kernel_rfl) (by kernel_rfl) (Below.refl _ _).drew ⟨?o0, ?o1, ?o2, ?o3, ?o4, ?o5, ?o6, ?o7, ?o8, trivial⟩ ?fin
      case o0 => exact fun b a w' hp hC => LUpon_move hC (hp.old 8 _ 7 rfl rfl (by kernel_rfl))
      case o1 => exact fun b a w' hp hC => LUpon_load44 hC rfl (cell_later hC hhd.out) rfl
      case o2 => exact fun b a w' hp hC => LUpon_move hC (hp.rest 8 (by kernel_rfl))
      case o3 => exact fun b a w' hp hC => LUpon_call1 (.inl rfl) (hp.on ⟨2, .data⟩ (by simp) rfl _ 22 rfl rfl) ((classOf_any k hk5 w' lb lo lc (hHC.out.later hC)).mono fun e w'' ⟨he, hb⟩ => ⟨_, he, rfl, hC.trans (hb.mono hC.size)⟩)
      case o4 => exact fun b a w' hp hC => LUpon_index Ybad.underlying44 (run_size Ybad.inf43) hC (hp.on ⟨1, .data⟩ (by simp) rfl _ 21 rfl rfl) (hp.on ⟨3, .data⟩ (by simp) rfl _ 23 rfl rfl) hr4 rfl
      case o5 => exact fun b a w' hp hC => LUpon_field43 hC (hp.on ⟨4, .data⟩ (by simp) rfl _ 24 rfl rfl) rfl
      case o6 => exact fun b a w' hp hC => LUpon_load3 hC (hp.on ⟨5, .data⟩ (by simp) rfl _ 25 rfl rfl) (cell_later hC hup.out) rfl
      case o7 => exact fun b a w' hp hC => LUpon_add3 hC (hp.on ⟨0, .data⟩ (by simp) rfl _ 20 rfl rfl) (hp.on ⟨6, .data⟩ (by simp) rfl _ 26 rfl rfl) hwrap rfl
      case o8 => exact fun b a w' hp hC => LUpon_assign hC (hp.on ⟨7, .data⟩ (by simp) rfl _ 27 rfl rfl)
      case fin =>
        intro a w' he hC
        obtain rfl := he.of_list (c := 0) (by kernel_rfl)
        simp only [putAll, List.headD, List.tail]
        have HB2 : Hid (Below wr.heap.size wr w') := hC
        clear hC he
        have hw1 : IntKind.i64.wrap ((k : Int) + 1) = (k : Int) + 1 := by rw [IntKind.wrap_i64]; omega
        go_wp2
        go_roundw
        case rel => exact ⟨k + 1, by omega, rfl, by go_num, HB.out.trans (HB2.out.mono HB.out.size)⟩
        case measure => simp [intOf]; omega
    · obtain rfl : k = n.toNat := by omega
      have hszr : w.heap.size + 2 ≤ wr.heap.size := by have := hb.size; omega
      have hlt0 : w.heap.size < wr.heap.size := by omega
      have R3 := hr3.out.later hb (by omega)
      have R6 : Hid (Row wr (w.heap.size + 1) 31 7 (fun i v => True)) := hr6.out.later hb (by omega)
      have hR3 : Hid (Row wr w.heap.size 28 3 (fun i v => v = [.slice (some ⟨cbk, 0, none⟩) c cc, .int .i64 isps, .float .f64 pen].getD i undef)) := R3
      have c0 : wr.cell? ⟨w.heap.size, 0, none⟩ = some (.slice (some ⟨cbk, 0, none⟩) c cc) := cell_row1 R3 (by omega)
      have c1 : wr.cell? ⟨w.heap.size, 1, none⟩ = some (.int .i64 isps) := cell_row1 R3 (by omega)
      have c2 : wr.cell? ⟨w.heap.size, 2, none⟩ = some (.float .f64 pen) := cell_row1 R3 (by omega)
      have HB : Hid (Below W.heap.size W wr) := hb
      clear hb R3
      go_wp2_with (first
        | (rw [fop_guard]; first | (refine law_fmul (by rfl) (by rfl) ?_; intro rate nr hr lr) | (refine law_fquo (by rfl) (by rfl) ?_; intro mean nm hm lm))
        | (rw [st_guard]))
      refine law_store 31 31 wr.heap.size [.slice (some ⟨cbk, 0, none⟩) c cc, .int .i64 isps, .float .f64 pen, .int .i64 n, .float .f64 mean, .float .f64 rate, .slice none 0 0] (fun _ _ => True) (info_size Ybad.inf31) (by rfl) (by rfl) (Row.alloc _ _ _ (fun _ _ => True) (fun _ _ _ => trivial)) (by rfl) ?_
      intro W1 ht1 hp1
      have hb1 : Hid (Below wr.heap.size wr W1) := Below.trans ((below_drewN (Below.refl _ _) _).alloc (Nat.le_refl _) _) ht1.below
      have hs1 : W1.heap.size = wr.heap.size + 1 := by rw [ht1.size]; simp
      have k0 : W1.cell? ⟨w.heap.size, 0, none⟩ = some (.slice (some ⟨cbk, 0, none⟩) c cc) := cell_later hb1.out c0
      have hP1 : Hid (Row W1 wr.heap.size 31 7 (fun i v => v = [.slice (some ⟨cbk, 0, none⟩) c cc, .int .i64 isps, .float .f64 pen, .int .i64 n, .float .f64 mean, .float .f64 rate, .slice none 0 0].getD i undef)) := hp1
      clear ht1 hp1 c1 c2
      by_cases hc1 : c ≤ 1024
      · have hc2 : (c : Int) ≤ 1024 := by omega
        obtain ⟨q, hq⟩ : ∃ q, c * c = q := ⟨_, rfl⟩
        have hq2 : q ≤ 1024 * 1024 := by rw [← hq]; exact Nat.mul_le_mul hc1 hc1
        have hwq : IntKind.i64.wrap ((c : Int) * (c : Int)) = (q : Int) := by
          have : (c : Int) * (c : Int) = (q : Int) := by rw [← hq]; simp
          rw [this, IntKind.wrap_i64]; omega
        have hmk := make_floats q (by omega) W1
        obtain ⟨p, hp⟩ : ∃ p, wr.heap.size = p := ⟨_, rfl⟩
        rw [hs1] at hmk
        rw [hp] at hmk hP1 hb1 hs1
        have hp0 : w.heap.size + 2 ≤ p := by omega
        go_wp2_with (rw [st_guard])
        refine law_store1 29 31 p 6 7 (some ⟨p + 1, 0, none⟩) q q _ rfl (by rfl) (by rfl) (hP1.out.of_heap (Below.heap_alloc _ _ _ (by omega))) (by omega) ?_
        intro W2 ht2 hp2
        have hw2 : Hid (Below w.heap.size w W2) := by
          refine Below.trans (b := W1.alloc _) ?_ (ht2.below.mono (by omega))
          exact (hbel.trans ((HB.out.mono (by omega)).trans (hb1.out.mono (by omega)))).alloc (by omega) _
        have h3W : Hid (Row W2 w.heap.size 28 3 (fun i v => v = [.slice (some ⟨cbk, 0, none⟩) c cc, .int .i64 isps, .float .f64 pen].getD i undef)) := by
          refine ht2.row ?_ (by omega)
          exact (hR3.out.later hb1.out (by omega)).of_heap (Below.heap_alloc _ _ _ (by omega))
        have h6W : Hid (Row W2 (w.heap.size + 1) 31 7 (fun i v => True)) := by
          refine ht2.row ?_ (by omega)
          exact (R6.out.later hb1.out (by omega)).of_heap (Below.heap_alloc _ _ _ (by omega))
        have hPW : Hid (Row W2 p 31 7 (fun i v => v = [.slice (some ⟨cbk, 0, none⟩) c cc, .int .i64 isps, .float .f64 pen, .int .i64 n, .float .f64 mean, .float .f64 rate, .slice (some ⟨p + 1, 0, none⟩) q q].getD i undef)) := by
          refine hp2.mono fun i v hi h => ?_
          rcases i with _ | _ | _ | _ | _ | _ | _ | i
          · exact h
          · exact h
          · exact h
          · exact h
          · exact h
          · exact h
          · exact h
          · omega
        have hKW : Hid (Row W2 (p + 1) 22 q (fun i v => True)) := by
          refine ht2.row ?_ (by omega)
          have := Row.alloc W1 (madeCells #[.float .f64 0] q) 22 (fun i v => True) (fun _ _ _ => trivial)
          rw [size_madeCells, hs1] at this
          exact this
        have c0W : W2.cell? ⟨w.heap.size, 0, none⟩ = some (.slice (some ⟨cbk, 0, none⟩) c cc) := cell_row1 h3W.out (by omega)
        clear ht2 hp2 hP1 k0 c0 hmk hb1
        go_wp2
        go_loopw [54] (fun i wx => ∃ k : Nat, k ≤ c ∧ i = .int .i64 k ∧ Below p W2 wx ∧ Row wx p 31 7 (fun i v => v = [.slice (some ⟨cbk, 0, none⟩) c cc, .int .i64 isps, .float .f64 pen, .int .i64 n, .float .f64 mean, .float .f64 rate, .slice (some ⟨p + 1, 0, none⟩) q q].getD i undef) ∧ Row wx (p + 1) 22 q (fun i v => i < k * c → FV (D (i / c) (i % c)) v)) (fun i _ => c - (intOf i).toNat)
        case atStart => exact ⟨0, Nat.zero_le _, rfl, Below.refl _ _, hPW.out, hKW.out.mono fun i v _ _ h => by omega⟩
        case round =>
          obtain ⟨k, hk, rfl, hbx, hPx, hKx⟩ := hrel
          have c0x : wr.cell? ⟨w.heap.size, 0, none⟩ = some (.slice (some ⟨cbk, 0, none⟩) c cc) := cell_row1 (h3W.out.later hbx (by omega)) (by omega)
          have hwx : Below w.heap.size w wr := hw2.out.trans (hbx.mono (by omega))
          have hKl := hKx.lt
          by_cases hlt : k < c
          · obtain ⟨i0, i1⟩ := HI.out k hlt
            have hlt' : (k : Int) < (c : Int) := by omega
            have i0' : wr.cell? ⟨cbk, k * 2, none⟩ = some (.float .f64 (lat k)) := cell_later hwx i0
            have i1' : wr.cell? ⟨cbk, k * 2 + 1, none⟩ = some (.float .f64 (lon k)) := cell_later hwx i1
            have HBX : Hid (Below p W2 wr) := hbx
            have HPX : Hid (Row wr p 31 7 (fun i v => v = [.slice (some ⟨cbk, 0, none⟩) c cc, .int .i64 isps, .float .f64 pen, .int .i64 n, .float .f64 mean, .float .f64 rate, .slice (some ⟨p + 1, 0, none⟩) q q].getD i undef)) := hPx
            have HKX : Hid (Row wr (p + 1) 22 q (fun i v => i < k * c → FV (D (i / c) (i % c)) v)) := hKx
            clear hbx hPx hKx hwx i0 i1
            go_wp2_with (rw [st_guard])
            refine law_store 36 36 wr.heap.size [.float .f64 (lat k), .float .f64 (lon k)] (fun _ _ => True) (info_size Ybad.inf36) (by rfl) (by rfl) (Row.alloc _ _ _ (fun _ _ => True) (fun _ _ _ => trivial)) (by rfl) ?_
            intro W3 ht3 hf3
            obtain ⟨f, hf⟩ : ∃ f, wr.heap.size = f := ⟨_, rfl⟩
            have hb3 : Below f wr W3 := by
              rw [← hf]
              exact Below.trans ((Below.refl _ _).alloc (Nat.le_refl _) _) ht3.below
            rw [hf] at hf3 hKl
            have hF3 : Hid (Row W3 f 36 2 (fun i v => v = [.float .f64 (lat k), .float .f64 (lon k)].getD i undef)) := hf3
            have HB3 : Hid (Below p W2 W3) := HBX.out.trans (hb3.mono (by omega))
            have HP3 : Hid (Row W3 p 31 7 (fun i v => v = [.slice (some ⟨cbk, 0, none⟩) c cc, .int .i64 isps, .float .f64 pen, .int .i64 n, .float .f64 mean, .float .f64 rate, .slice (some ⟨p + 1, 0, none⟩) q q].getD i undef)) := HPX.out.later hb3 (by omega)
            have HK3 : Hid (Row W3 (p + 1) 22 q (fun i v => i < k * c + 0 → FV (D (i / c) (i % c)) v)) := (HKX.out.later hb3 (by omega)).mono fun i v _ h h' => h (by omega)
            have c03 : W3.cell? ⟨w.heap.size, 0, none⟩ = some (.slice (some ⟨cbk, 0, none⟩) c cc) := cell_later (hb3.mono (by omega)) c0x
            clear ht3 hf3 hb3 i0' i1' c0x HBX HPX HKX
            rw [hf]
            go_wp2
            go_loopw [62] (fun i wy => ∃ j : Nat, j ≤ c ∧ i = .int .i64 j ∧ Below p W2 wy ∧ Row wy p 31 7 (fun i v => v = [.slice (some ⟨cbk, 0, none⟩) c cc, .int .i64 isps, .float .f64 pen, .int .i64 n, .float .f64 mean, .float .f64 rate, .slice (some ⟨p + 1, 0, none⟩) q q].getD i undef) ∧ Row wy f 36 2 (fun i v => v = [.float .f64 (lat k), .float .f64 (lon k)].getD i undef) ∧ Row wy (p + 1) 22 q (fun i v => i < k * c + j → FV (D (i / c) (i % c)) v)) (fun i _ => c - (intOf i).toNat)
            case atStart => exact ⟨0, Nat.zero_le _, rfl, HB3.out, HP3.out, hF3.out, HK3.out⟩
            case round =>
              obtain ⟨j, hj, rfl, hby, hPy, hFy, hKy⟩ := hrel
              have c0y : wr.cell? ⟨w.heap.size, 0, none⟩ = some (.slice (some ⟨cbk, 0, none⟩) c cc) := cell_row1 (h3W.out.later hby (by omega)) (by omega)
              have hwy : Below w.heap.size w wr := hw2.out.trans (hby.mono (by omega))
              have hKl2 := hKy.lt
              have hFl2 := hFy.lt
              by_cases hlt2 : j < c
              · obtain ⟨i0, i1⟩ := HI.out j hlt2
                have hlt2' : (j : Int) < (c : Int) := by omega
                have i0' : wr.cell? ⟨cbk, j * 2, none⟩ = some (.float .f64 (lat j)) := cell_later hwy i0
                have i1' : wr.cell? ⟨cbk, j * 2 + 1, none⟩ = some (.float .f64 (lon j)) := cell_later hwy i1
                have HBY : Hid (Below p W2 wr) := hby
                have HPY : Hid (Row wr p 31 7 (fun i v => v = [.slice (some ⟨cbk, 0, none⟩) c cc, .int .i64 isps, .float .f64 pen, .int .i64 n, .float .f64 mean, .float .f64 rate, .slice (some ⟨p + 1, 0, none⟩) q q].getD i undef)) := hPy
                have HFY : Hid (Row wr f 36 2 (fun i v => v = [.float .f64 (lat k), .float .f64 (lon k)].getD i undef)) := hFy
                have HKY : Hid (Row wr (p + 1) 22 q (fun i v => i < k * c + j → FV (D (i / c) (i % c)) v)) := hKy
                clear hby hPy hKy hFy hwy i0 i1
                go_wp2_with (rw [st_guard])
                refine law_store 36 36 wr.heap.size [.float .f64 (lat j), .float .f64 (lon j)] (fun _ _ => True) (info_size Ybad.inf36) (by rfl) (by rfl) (Row.alloc _ _ _ (fun _ _ => True) (fun _ _ _ => trivial)) (by rfl) ?_
                intro W4 ht4 hg4
                obtain ⟨g, hg⟩ : ∃ g, wr.heap.size = g := ⟨_, rfl⟩
                have hb4 : Below g wr W4 := by
                  rw [← hg]
                  exact Below.trans ((Below.refl _ _).alloc (Nat.le_refl _) _) ht4.below
                rw [hg] at hg4 hKl2 hFl2
                have hG4 : Hid (Row W4 g 36 2 (fun i v => v = [.float .f64 (lat j), .float .f64 (lon j)].getD i undef)) := hg4
                have HB4 : Hid (Below p W2 W4) := HBY.out.trans (hb4.mono (by omega))
                have HP4 : Hid (Row W4 p 31 7 (fun i v => v = [.slice (some ⟨cbk, 0, none⟩) c cc, .int .i64 isps, .float .f64 pen, .int .i64 n, .float .f64 mean, .float .f64 rate, .slice (some ⟨p + 1, 0, none⟩) q q].getD i undef)) := HPY.out.later hb4 (by omega)
                have HF4 : Hid (Row W4 f 36 2 (fun i v => v = [.float .f64 (lat k), .float .f64 (lon k)].getD i undef)) := HFY.out.later hb4 (by omega)
                have HK4 : Hid (Row W4 (p + 1) 22 q (fun i v => i < k * c + j → FV (D (i / c) (i % c)) v)) := HKY.out.later hb4 (by omega)
                clear ht4 hg4 hb4 i0' i1' c0y HBY HPY HKY HFY
                rw [hg]
                obtain ⟨y, hy⟩ : ∃ y, k * c = y := ⟨_, rfl⟩
                have hyq : y + c ≤ q := by
                  rw [← hy, ← hq, ← Nat.succ_mul]; exact Nat.mul_le_mul_right _ hlt
                have hw1 : IntKind.i64.wrap ((k : Int) * (c : Int)) = (y : Int) := by
                  have : (k : Int) * (c : Int) = (y : Int) := by rw [← hy]; simp
                  rw [this, IntKind.wrap_i64]; omega
                have hw3 : IntKind.i64.wrap ((y : Int) + (j : Int)) = ((y + j : Nat) : Int) := by rw [IntKind.wrap_i64]; omega
                have hdiv : (y + j) / c = k := by rw [← hy, Nat.mul_comm, Nat.mul_add_div (by omega)]; simp [Nat.div_eq_of_lt hlt2]
                have hmod : (y + j) % c = j := by rw [← hy, Nat.mul_comm, Nat.mul_add_mod, Nat.mod_eq_of_lt hlt2]
                have HDk : Hid (∀ w, Tabs w → Calls Ybad.prog 9 #[.agg #[.float .f64 (lat k), .float .f64 (lon k)], .agg #[.float .f64 (lat j), .float .f64 (lon j)]] w fun e w' => KmRes w (D k j) e w') := HD.out k j hlt hlt2
                rw [hy] at HK4
                go_wp2
                refine wp_region_obs2 (L := 11) (C := fun b w' => Below p W2 w' ∧ Row w' p 31 7 (fun i v => v = [.slice (some ⟨cbk, 0, none⟩) c cc, .int .i64 isps, .float .f64 pen, .int .i64 n, .float .f64 mean, .float .f64 rate, .slice (some ⟨p + 1, 0, none⟩) q q].getD i undef) ∧ Row w' f 36 2 (fun i v => v = [.float .f64 (lat k), .float .f64 (lon k)].getD i undef) ∧ Row w' g 36 2 (fun i v => v = [.float .f64 (lat j), .float .f64 (lon j)].getD i undef) ∧ Row w' (p + 1) 22 q (fun i v => (i < y + j → FV (D (i / c) (i % c)) v) ∧ (b = true → i = y + j → FV (D k j) v)))
                  (R := fun o v => (o = 9 → FV (D k j) v) ∧ (o ≠ 9 → v = [.pointer (some ⟨p, 6, none⟩), .slice (some ⟨p + 1, 0, none⟩) q q, .int .i64 k, .int .i64 c, .int .i64 y, .int .i64 j, .int .i64 (y + j : Nat), .agg #[.float .f64 (lat k), .float .f64 (lon k)], .agg #[.float .f64 (lat j), .float .f64 (lon j)], undef, .pointer (some ⟨p + 1, 0 + (y + j) * 1, none⟩)].getD o undef))
                  (by kernel_rfl) (by kernel_rfl) ?start ⟨?o0, ?o1, ?o2, ?o3, ?o4, ?o5, ?o6, ?o7, ?o8, ?o9, ?o10, ?o11, trivial⟩ ?fin
                case start => exact ⟨HB4.out.drew, Row.of_heap (W := W4.drew) HP4.out rfl, Row.of_heap (W := W4.drew) HF4.out rfl, Row.of_heap (W := W4.drew) hG4.out rfl, (Row.of_heap (W := W4.drew) HK4.out rfl).mono fun i v _ h => ⟨h, fun e => by cases e⟩⟩
                case o0 => exact fun b a w' hp hC => LUpon_field31 hC (hp.rest 10 (by kernel_rfl)) ⟨fun e => (by cases e), fun _ => rfl⟩
                case o1 => exact fun b a w' hp hC => LUpon_load29 hC ((hp.on ⟨0, .data⟩ (by simp) rfl _ 67 rfl rfl).2 (by decide)) (cells7 hC.2.1).2.2.2.2.2.2 ⟨fun e => (by cases e), fun _ => rfl⟩
                case o2 => exact fun b a w' hp hC => LUpon_move hC ⟨fun e => (by cases e), fun _ => hp.rest 12 (by kernel_rfl)⟩
                case o3 => exact fun b a w' hp hC => LUpon_move hC ⟨fun e => (by cases e), fun _ => hp.rest 11 (by kernel_rfl)⟩
                case o4 => exact fun b a w' hp hC => LUpon_mul3 hC ((hp.on ⟨2, .data⟩ (by simp) rfl _ 69 rfl rfl).2 (by decide)) ((hp.on ⟨3, .data⟩ (by simp) rfl _ 70 rfl rfl).2 (by decide)) hw1 ⟨fun e => (by cases e), fun _ => rfl⟩
                case o5 => exact fun b a w' hp hC => LUpon_move hC ⟨fun e => (by cases e), fun _ => hp.rest 14 (by kernel_rfl)⟩
                case o6 => exact fun b a w' hp hC => LUpon_add3 hC ((hp.on ⟨4, .data⟩ (by simp) rfl _ 71 rfl rfl).2 (by decide)) ((hp.on ⟨5, .data⟩ (by simp) rfl _ 72 rfl rfl).2 (by decide)) hw3 ⟨fun e => (by cases e), fun _ => rfl⟩
                case o7 => exact fun b a w' hp hC => LUpon_load36 hC (hp.rest 13 (by kernel_rfl)) (cells2 hC.2.2.1).1 (cells2 hC.2.2.1).2 ⟨fun e => (by cases e), fun _ => rfl⟩
                case o8 => exact fun b a w' hp hC => LUpon_load36 hC (hp.rest 15 (by kernel_rfl)) (cells2 hC.2.2.2.1).1 (cells2 hC.2.2.2.1).2 ⟨fun e => (by cases e), fun _ => rfl⟩
                case o9 =>
                  intro b a w' hp hC
                  refine LUpon_call2 (.inr rfl) ((hp.on ⟨7, .data⟩ (by simp) rfl _ 74 rfl rfl).2 (by decide)) ((hp.on ⟨8, .data⟩ (by simp) rfl _ 75 rfl rfl).2 (by decide)) ?_
                  refine (HDk.out w' (tabs_below (hw2.out.trans (hC.1.mono (by omega))) HT.out)).mono ?_
                  rintro e w'' ⟨r, he, hcl, hl, hb⟩
                  exact ⟨_, he, ⟨fun _ => ⟨r, rfl, hcl, hl⟩, fun h => absurd rfl h⟩, hC.1.trans (hb.mono (Nat.le_of_lt hC.2.1.lt)), hC.2.1.later hb hC.2.1.lt, hC.2.2.1.later hb hC.2.2.1.lt, hC.2.2.2.1.later hb hC.2.2.2.1.lt, hC.2.2.2.2.later hb hC.2.2.2.2.lt⟩
                case o10 => exact fun b a w' hp hC => LUpon_index Ybad.underlying29 (run_size Ybad.inf22) hC ((hp.on ⟨1, .data⟩ (by simp) rfl _ 68 rfl rfl).2 (by decide)) ((hp.on ⟨6, .data⟩ (by simp) rfl _ 73 rfl rfl).2 (by decide)) (by omega) ⟨fun e => (by cases e), fun _ => rfl⟩
                case o11 =>
                  intro b a w' hp hC
                  obtain ⟨r, hr9, hcl, hl⟩ := (hp.on ⟨9, .data⟩ (by simp) rfl _ 76 rfl rfl).1 rfl
                  refine LUpon_store22 (hC.2.2.2.2.there _ 1 (by omega)) ((hp.on ⟨10, .data⟩ (by simp) rfl _ 77 rfl rfl).2 (by decide)) hr9 ?_ ⟨fun e => (by cases e), fun _ => rfl⟩
                  have ht := Turn.set (p + 1) (0 + (y + j) * 1) w' (.float .f64 r)
                  refine ⟨hC.1.trans (ht.below.mono (by omega)), ht.row hC.2.1 (by omega), ht.row hC.2.2.1 (by omega), ht.row hC.2.2.2.1 (by omega), (hC.2.2.2.2.set _ _).mono fun i v hi h => ?_⟩
                  by_cases e : i = 0 + (y + j) * 1
                  · rw [if_pos e] at h
                    exact ⟨fun h' => by omega, fun _ _ => ⟨r, h, hcl, hl⟩⟩
                  · rw [if_neg e] at h
                    exact ⟨h.1, fun _ h' => by omega⟩
                case fin =>
                  intro a w' he hC
                  obtain ⟨r, hr9, hcl, hl⟩ := (he.done 9 _ 76 rfl rfl).1 rfl
                  have hK5 : Hid (Row w' (p + 1) 22 q (fun i v => i < y + (j + 1) → FV (D (i / c) (i % c)) v)) := hC.2.2.2.2.mono fun i v _ h h' => by
                    by_cases e : i = y + j
                    · rw [e, hdiv, hmod]; exact h.2 rfl e
                    · exact h.1 (by omega)
                  have hB5 : Hid (Below p W2 w') := hC.1
                  have hP5 : Hid (Row w' p 31 7 (fun i v => v = [.slice (some ⟨cbk, 0, none⟩) c cc, .int .i64 isps, .float .f64 pen, .int .i64 n, .float .f64 mean, .float .f64 rate, .slice (some ⟨p + 1, 0, none⟩) q q].getD i undef)) := hC.2.1
                  have hF5 : Hid (Row w' f 36 2 (fun i v => v = [.float .f64 (lat k), .float .f64 (lon k)].getD i undef)) := hC.2.2.1
                  clear hC
                  obtain rfl := he.act (c := 11) (by kernel_rfl) [.pointer (some ⟨p, 6, none⟩), .slice (some ⟨p + 1, 0, none⟩) q q, .int .i64 k, .int .i64 c, .int .i64 y, .int .i64 j, .int .i64 (y + j : Nat), .agg #[.float .f64 (lat k), .float .f64 (lon k)], .agg #[.float .f64 (lat j), .float .f64 (lon j)], .float .f64 r, .pointer (some ⟨p + 1, 0 + (y + j) * 1, none⟩)] (fun o op d ho hd => by
                    by_cases e : o = 9
                    · subst e
                      cases ho
                      cases hd
                      exact hr9
                    · have := (he.done o op d ho hd).2 e
                      rw [this]
                      rcases o with _ | _ | _ | _ | _ | _ | _ | _ | _ | _ | _ | o
                      all_goals first | rfl | exact absurd rfl e)
                  simp only [putAll, List.headD, List.tail]
                  clear he hr9
                  have hwj : IntKind.i64.wrap ((j : Int) + 1) = (j : Int) + 1 := by rw [IntKind.wrap_i64]; omega
                  go_wp2
                  go_roundw
                  case rel => exact ⟨j + 1, by omega, by go_num, hB5.out, hP5.out, hF5.out, by rw [hy]; exact hK5.out⟩
                  case measure => simp [intOf]; omega
              · have hjc : j = c := by omega
                have hlt2' : ¬ (j : Int) < (c : Int) := by omega
                have HBY : Hid (Below p W2 wr) := hby
                have HPY : Hid (Row wr p 31 7 (fun i v => v = [.slice (some ⟨cbk, 0, none⟩) c cc, .int .i64 isps, .float .f64 pen, .int .i64 n, .float .f64 mean, .float .f64 rate, .slice (some ⟨p + 1, 0, none⟩) q q].getD i undef)) := hPy
                have HKY : Hid (Row wr (p + 1) 22 q (fun i v => i < (k + 1) * c → FV (D (i / c) (i % c)) v)) := by
                  rw [hjc, ← Nat.succ_mul] at hKy
                  exact hKy
                clear hby hPy hKy hFy hwy
                have hwk : IntKind.i64.wrap ((k : Int) + 1) = (k : Int) + 1 := by rw [IntKind.wrap_i64]; omega
                go_wp2
                go_roundw
                case rel => exact ⟨k + 1, by omega, by go_num, HBY.out, HPY.out, HKY.out⟩
                case measure => simp [intOf]; omega
          · obtain rfl : k = c := by omega
            obtain ⟨m0, m1, m2, m3, m4, m5, m6⟩ := cells7 hPx
            have HBX : Hid (Below p W2 wr) := hbx
            have HKX : Hid (Row wr (p + 1) 22 q (fun i v => FV (D (i / k) (i % k)) v)) := hKx.mono fun i v hi h => h (by omega)
            have HWX : Hid (Below w.heap.size w wr) := hwx
            clear hPx hKx hbx hwx
            go_wp2_with (rw [st_guard])
            refine law_store 31 31 (w.heap.size + 1) [.slice (some ⟨cbk, 0, none⟩) k cc, .int .i64 isps, .float .f64 pen, .int .i64 n, .float .f64 mean, .float .f64 rate, .slice (some ⟨p + 1, 0, none⟩) q q] (fun _ _ => True) (info_size Ybad.inf31) (by rfl) (by rfl) (h6W.out.later HBX.out (by omega)) (by rfl) ?_
            intro W9 ht9 hp9
            have hb9 : Hid (Below w.heap.size w W9) := HWX.out.trans (ht9.below.mono (by omega))
            have hK9 : Hid (Row W9 (p + 1) 22 q (fun i v => FV (D (i / k) (i % k)) v)) := ht9.row HKX.out (by omega)
            have hp3 : Hid (Row W9 (w.heap.size + 1) 31 7 (fun i v => v = [.slice (some ⟨cbk, 0, none⟩) k cc, .int .i64 isps, .float .f64 pen, .int .i64 n, .float .f64 mean, .float .f64 rate, .slice (some ⟨p + 1, 0, none⟩) q q].getD i undef)) := hp9
            clear ht9 hp9 m0 m1 m2 m3 m4 m5 m6
            go_wp2
            (try simp only [Exit.inBlock, Exit.then])
            refine bodyPost_ret (results7 hp3.out _ rfl) rfl ?_
            exact ⟨mean, rate, _, rfl, hm.out, lm, hr.out, lr, hb9.out, .inr ⟨hc1, p + 1, by omega, by rw [hq], by rw [hq]; exact hK9.out⟩⟩
      · have hc2 : ¬ (c : Int) ≤ 1024 := by omega
        obtain ⟨m0, m1, m2, m3, m4, m5, m6⟩ := cells7 hP1.out
        go_wp2_with (rw [st_guard])
        refine law_store 31 31 (w.heap.size + 1) [.slice (some ⟨cbk, 0, none⟩) c cc, .int .i64 isps, .float .f64 pen, .int .i64 n, .float .f64 mean, .float .f64 rate, .slice none 0 0] (fun _ _ => True) (info_size Ybad.inf31) (by rfl) (by rfl) (R6.out.later hb1.out (by omega)) (by rfl) ?_
        intro W2 ht2 hp2
        have hb2 : Hid (Below w.heap.size w W2) := by
          refine Below.trans (b := W1) ?_ (ht2.below.mono (by omega))
          exact hbel.trans ((HB.out.mono (by omega)).trans (hb1.out.mono (by omega)))
        have hp3 : Hid (Row W2 (w.heap.size + 1) 31 7 (fun i v => v = [.slice (some ⟨cbk, 0, none⟩) c cc, .int .i64 isps, .float .f64 pen, .int .i64 n, .float .f64 mean, .float .f64 rate, .slice none 0 0].getD i undef)) := hp2
        clear ht2 hp2 k0 m0 m1 m2 m3 m4 m5 m6
        go_wp2
        (try simp only [Exit.inBlock, Exit.then])
        refine bodyPost_ret (results7 hp3.out _ rfl) rfl ?_
        exact ⟨mean, rate, _, rfl, hm.out, lm, hr.out, lr, hb2.out, .inl ⟨by omega, rfl⟩⟩
end Go.Proofs.YbulkcivsDoor
