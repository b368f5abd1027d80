import Derived.Test.YbulkcivsDoorMA
import Derived.Laws.Cover3
namespace Go.Proofs.YbulkcivsDoor
open Go.RowKit
set_option linter.unusedVariables false
set_option linter.unusedSimpArgs false

theorem law_storeAt {ops : Array Oper} {Q : Exit → Act → World → Prop} {rest : List Oper} {a : Act} {w : World} {d : Option Tmp} {x y : Operand} {ty : TypeId} {pos : String} {af : Array Edge}
    (t t' : TypeId) (B o n : Nat) (cs : List Value) (F : Nat → Value → Prop) (hi : (Ybad.prog.info? t).map (·.size) = some cs.length) (hx : a.eval x = .pointer (some ⟨B, o, none⟩)) (hy : a.eval y = .agg cs.toArray)
    (hrow : Row w B t' n F) (ho : o + cs.length ≤ n) (h1 : cs.all (·.oneCell') = true)
    (h : ∀ W, Turn B w W → Row W B t' n (fun i v => (o ≤ i → i < o + cs.length → v = cs.getD (i - o) undef) ∧ ((i < o ∨ o + cs.length ≤ i) → F i v)) → wpList Ybad.prog ops Q rest (a.put d undef) W) : StOp Ybad.prog ops Q rest a w d t x y ty pos af := by
  refine ⟨wpList_store_mid rfl t x y rfl B o cs.toArray hx hy (hrow.there o _ (by simpa using ho)) (by simpa using hi) (all_oneCell_toArray (List.all_eq_true.1 h1)) ?_⟩
  have e : cs.toArray.toList = cs := by simp
  rw [e]
  exact h _ (Turn.sets B cs o w) (Row.sets cs o w F hrow)

set_option maxRecDepth 100000 in
theorem tab_long (big : Bool) (sa : Option Addr) (c sc : Nat) (w : World) (hc : ¬ c ≤ 64) :
    Calls Ybad.prog 4 #[.slice sa c sc, .bool big] w fun e w' => e = .returned (.bool true) ∧ Below w.heap.size w w' := by
  have hc' : (64 : Int) < (c : Int) := by omega
  go_enter Ybad.func4, Ybad.ntmps4
  go_wp2
  go_ret
  exact ⟨rfl, Below.refl _ _⟩

theorem run_nil (w : World) (a : Option Addr) (l c : Nat) : (binOp .eql 29 (.slice a l c) (.slice none 0 0)).run Ybad.prog w = .ok (.bool a.isNone) w := by
  simp only [binOp]
  simp [run_equal_slice_nil w 29 22 a l c Ybad.underlying29]

theorem make_big (W : World) : ∃ W', (Instr.makeSlice 24 (.int .i64 1025) (.int .i64 1025)).run Ybad.prog W = .ok (.slice (some ⟨W.heap.size, 0, none⟩) 1025 1025) W' ∧ Below W.heap.size W W' ∧ Row W' W.heap.size 36 2050 (fun _ _ => True) := by
  have h := make_cities 1025 (by omega) W
  refine ⟨_, h, (Below.refl _ _).alloc (Nat.le_refl _) _, ?_⟩
  have := Row.alloc W (madeCells #[.float .f64 0, .float .f64 0] (1025 * 2)) 36 (fun _ _ => True) (fun _ _ _ => trivial)
  rw [size_madeCells] at this
  exact this

set_option maxRecDepth 100000 in
set_option maxHeartbeats 4000000 in
theorem tab_big0 (K : Nat × Nat → Nat × Nat → Option Nat) (sa : Option Addr) (sb so c sc : Nat) (lat lon : Nat → Nat) (w : World) (hc : c ≤ 64)
    (hsa : 0 < c → sa = some ⟨sb, so, none⟩) (hit : ∀ i, i < c → w.cell? ⟨sb, so + i * 2, none⟩ = some (.float .f64 (lat i)) ∧ w.cell? ⟨sb, so + i * 2 + 1, none⟩ = some (.float .f64 (lon i)))
    (hT : Tabs w) (lb lo lc : Nat) (hCl : Clss w lb lo lc) (l0 o0 : Nat) (hz : c = 0) (hl0 : l0 = 0) (ho0 : o0 = 0)
    (hD : ∀ w, Tabs w → Calls Ybad.prog 9 #[.agg #[.float .f64 l0, .float .f64 o0], .agg #[.float .f64 l0, .float .f64 o0]] w fun e w' => KmRes w (K (l0, o0) (l0, o0)) e w') :
    Calls Ybad.prog 4 #[.slice sa c sc, .bool true] w fun e w' => e = .returned (.bool true) ∧ Below w.heap.size w w' := by
  have hc' : ¬ (64 : Int) < (c : Int) := by omega
  have HT : Hid (Tabs w) := hT
  have HC : Hid (Clss w lb lo lc) := hCl
  have HD : Hid (∀ w, Tabs w → Calls Ybad.prog 9 #[.agg #[.float .f64 l0, .float .f64 o0], .agg #[.float .f64 l0, .float .f64 o0]] w fun e w' => KmRes w (K (l0, o0) (l0, o0)) e w') := hD
  have H5 : Hid (Calls Ybad.prog 5 #[.slice sa c sc] w fun e w' => e = .returned (.slice (some ⟨w.heap.size, 0, none⟩) c c) ∧ Below w.heap.size w w' ∧ w.heap.size < w'.heap.size ∧ ∀ i, i < c → w'.cell? ⟨w.heap.size, i * 2, none⟩ = some (.float .f64 (lat i)) ∧ w'.cell? ⟨w.heap.size, i * 2 + 1, none⟩ = some (.float .f64 (lon i))) := cities_any sa sb so c sc lat lon w hc hsa hit
  clear hT hCl hit hD hsa
  go_enter Ybad.func4, Ybad.ntmps4
  subst hz hl0 ho0
  go_wp2_with (go_at_call 5; refine H5.out.mono ?_; rintro e W1 ⟨rfl, hb1, hs1, hi1⟩; have HB1 : Hid (Below w.heap.size w W1) := hb1; clear hb1 hi1; obtain ⟨W2, hmk, hb2, hM2⟩ := make_big (W1.alloc (.cells #[.float .f64 0, .float .f64 0] 36)); have HBM : Hid (Below (W1.alloc (.cells #[.float .f64 0, .float .f64 0] 36)).heap.size (W1.alloc (.cells #[.float .f64 0, .float .f64 0] 36)) W2) := hb2; have HM0 : Hid (Row W2 (W1.alloc (.cells #[.float .f64 0, .float .f64 0] 36)).heap.size 36 2050 (fun _ _ => True)) := hM2; clear hb2 hM2)
  obtain ⟨M, hM⟩ : ∃ M, W1.heap.size + 1 = M := ⟨_, rfl⟩
  have hal : (W1.alloc (.cells #[.float .f64 0, .float .f64 0] 36)).heap.size = M := by rw [← hM]; simp
  have HM2 : Hid (Row W2 M 36 2050 (fun _ _ => True)) := by rw [← hal]; exact HM0.out
  have HB2 : Hid (Below w.heap.size w W2) := (HB1.out.alloc (Nat.le_of_lt hs1) _).trans (HBM.out.mono (by rw [hal]; omega))
  have HO2 : Hid (Row W2 W1.heap.size 36 2 (fun i v => v = [.float .f64 0, .float .f64 0].getD i undef)) := by
    refine Row.later ?_ HBM.out (by rw [hal]; omega)
    refine Row.alloc W1 #[.float .f64 0, .float .f64 0] 36 _ fun i v h => ?_
    rcases i with _ | _ | i <;> simp at h <;> exact h.symm
  try rw [hM]
  clear HM0 HBM
  go_loopw [8] (fun i wx => ∃ k : Nat, k ≤ 1025 ∧ i = .int .i64 k ∧ Below M W2 wx ∧ Row wx M 36 2050 (fun i v => i < k * 2 → v = cityV (fun _ => 0) (fun _ => 0) i)) (fun i _ => 1025 - (intOf i).toNat)
  case atStart => exact ⟨0, Nat.zero_le _, rfl, Below.refl _ _, HM2.out.mono fun i v _ _ h => by omega⟩
  case round =>
    obtain ⟨k, hk, rfl, hbx, hMx⟩ := hrel
    obtain ⟨y0, y1⟩ := cells2 (HO2.out.later hbx (by omega))
    by_cases hlt : k < 1025
    · have hlt' : (k : Int) < 1025 := by omega
      have HBX : Hid (Below M W2 wr) := hbx
      have HMX : Hid (Row wr M 36 2050 (fun i v => i < k * 2 → v = cityV (fun _ => 0) (fun _ => 0) i)) := hMx
      clear hbx hMx
      go_wp2_with (rw [st_guard])
      refine law_storeAt 36 36 M (k * 2) 2050 [.float .f64 0, .float .f64 0] _ (info_size Ybad.inf36) (by rfl) (by rfl) HMX.out (by show k * 2 + 2 ≤ 2050; omega) (by rfl) ?_
      intro W3 ht3 hp3
      have hM3 : Hid (Row W3 M 36 2050 (fun i v => i < (k + 1) * 2 → v = cityV (fun _ => 0) (fun _ => 0) i)) := hp3.mono fun i v _ h h' => by
        by_cases e1 : i = k * 2
        · have := h.1 (by omega) (by show i < k * 2 + 2; omega)
          rw [this, e1, cityV_lat, Nat.sub_self]; rfl
        · by_cases e2 : i = k * 2 + 1
          · have := h.1 (by omega) (by show i < k * 2 + 2; omega)
            rw [this, e2, cityV_lon, show k * 2 + 1 - k * 2 = 1 by omega]; rfl
          · exact h.2 (.inl (by omega)) (by omega)
      have hB3 : Hid (Below M W2 W3) := HBX.out.trans ht3.below
      clear ht3 hp3 y0 y1
      have hwk : IntKind.i64.wrap ((k : Int) + 1) = (k : Int) + 1 := by rw [IntKind.wrap_i64]; omega
      go_wp2
      go_roundw
      case rel => exact ⟨k + 1, by omega, by go_num, hB3.out, hM3.out⟩
      case measure => simp [intOf]; omega
    · obtain rfl : k = 1025 := by omega
      have hBw : Below w.heap.size w wr := HB2.out.trans (hbx.mono (by omega))
      have HBW : Hid (Below w.heap.size w wr) := hBw
      have HP : Hid (Calls Ybad.prog 7 #[.agg #[.slice (some ⟨M, 0, none⟩) 1025 1025, .int .i64 1, .float .f64 0], .int .i64 20, .float .f64 4602678819172646912] wr fun e w' => PeersRes (fun i j => K (0, 0) (0, 0)) M 1025 1025 1 0 20 4602678819172646912 wr e w') :=
        peers_any (fun i j => K (0, 0) (0, 0)) M 1025 1025 (fun _ => 0) (fun _ => 0) 1 0 20 4602678819172646912 wr (by omega) (by omega) (tabs_below hBw HT.out) lb lo lc (HC.out.later hBw) (fun i hi => by
          obtain ⟨v, hv, hv'⟩ := hMx.cell (i := i * 2) (by omega)
          obtain ⟨u, hu, hu'⟩ := hMx.cell (i := i * 2 + 1) (by omega)
          rw [hv, hu, hv' (by omega), hu' (by omega), cityV_lat, cityV_lon]
          exact ⟨rfl, rfl⟩) (fun _ _ _ _ => HD.out)
      have hszr : W2.heap.size ≤ wr.heap.size := hbx.size
      clear hbx hMx y0 y1 hBw
      go_wp2_with (first
        | (go_at_call 7; refine HP.out.mono ?_; rintro e W5 ⟨m2, r2, km, rfl, hm2, lm2, hr2, lr2, hb5, hkm⟩; obtain rfl : km = .slice none 0 0 := (by rcases hkm with ⟨_, h⟩ | ⟨h, _⟩; exact h; omega); have HB5 : Hid (Below wr.heap.size wr W5) := hb5; clear hb5 hm2 hr2 hkm)
        | (rw [st_guard]))
      refine law_store 31 31 W5.heap.size [.slice (some ⟨M, 0, none⟩) 1025 1025, .int .i64 1, .float .f64 0, .int .i64 20, .float .f64 m2, .float .f64 r2, .slice none 0 0] (fun _ _ => True) (info_size Ybad.inf31) (by rfl) (by rfl) (Row.alloc _ _ _ (fun _ _ => True) (fun _ _ _ => trivial)) (by rfl) ?_
      intro W6 ht6 hp6
      have hb6 : Hid (Below w.heap.size w W6) := by
        have hs5 := HB5.out.size
        have hsw := HBW.out.size
        refine Below.trans (b := W5) (HBW.out.trans (HB5.out.mono hsw)) ?_
        exact (Below.trans ((Below.refl _ _).alloc (Nat.le_refl _) _) ht6.below).mono (by omega)
      obtain ⟨m0, m1, m2', m3, m4, m5, m6⟩ := cells7 hp6
      clear ht6 hp6
      have heq := run_nil W6 none 0 0
      go_wp2
      go_ret
      exact ⟨rfl, hb6.out⟩

set_option maxRecDepth 100000 in
set_option maxHeartbeats 4000000 in
theorem tab_bigN (K : Nat × Nat → Nat × Nat → Option Nat) (sa : Option Addr) (sb so c sc : Nat) (lat lon : Nat → Nat) (w : World) (hc : c ≤ 64)
    (hsa : 0 < c → sa = some ⟨sb, so, none⟩) (hit : ∀ i, i < c → w.cell? ⟨sb, so + i * 2, none⟩ = some (.float .f64 (lat i)) ∧ w.cell? ⟨sb, so + i * 2 + 1, none⟩ = some (.float .f64 (lon i)))
    (hT : Tabs w) (lb lo lc : Nat) (hCl : Clss w lb lo lc) (l0 o0 : Nat) (hz : 0 < c) (hl0 : lat 0 = l0) (ho0 : lon 0 = o0)
    (hD : ∀ w, Tabs w → Calls Ybad.prog 9 #[.agg #[.float .f64 l0, .float .f64 o0], .agg #[.float .f64 l0, .float .f64 o0]] w fun e w' => KmRes w (K (l0, o0) (l0, o0)) e w') :
    Calls Ybad.prog 4 #[.slice sa c sc, .bool true] w fun e w' => e = .returned (.bool true) ∧ Below w.heap.size w w' := by
  have hc' : ¬ (64 : Int) < (c : Int) := by omega
  have HT : Hid (Tabs w) := hT
  have HC : Hid (Clss w lb lo lc) := hCl
  have HD : Hid (∀ w, Tabs w → Calls Ybad.prog 9 #[.agg #[.float .f64 l0, .float .f64 o0], .agg #[.float .f64 l0, .float .f64 o0]] w fun e w' => KmRes w (K (l0, o0) (l0, o0)) e w') := hD
  have H5 : Hid (Calls Ybad.prog 5 #[.slice sa c sc] w fun e w' => e = .returned (.slice (some ⟨w.heap.size, 0, none⟩) c c) ∧ Below w.heap.size w w' ∧ w.heap.size < w'.heap.size ∧ ∀ i, i < c → w'.cell? ⟨w.heap.size, i * 2, none⟩ = some (.float .f64 (lat i)) ∧ w'.cell? ⟨w.heap.size, i * 2 + 1, none⟩ = some (.float .f64 (lon i))) := cities_any sa sb so c sc lat lon w hc hsa hit
  clear hT hCl hit hD hsa
  go_enter Ybad.func4, Ybad.ntmps4
  have hz' : (0 : Int) < (c : Int) := by omega
  go_wp2_with (first
    | (go_at_call 5; refine H5.out.mono ?_; rintro e W1 ⟨rfl, hb1, hs1, hi1⟩; have HB1 : Hid (Below w.heap.size w W1) := hb1; obtain ⟨j0, j1⟩ := hi1 0 hz; clear hb1 hi1; rw [hl0, Nat.zero_mul] at j0; rw [ho0, Nat.zero_mul] at j1)
    | (rw [st_guard]))
  refine law_store 36 36 W1.heap.size [.float .f64 l0, .float .f64 o0] (fun _ _ => True) (info_size Ybad.inf36) (by rfl) (by rfl) (Row.alloc _ _ _ (fun _ _ => True) (fun _ _ _ => trivial)) (by rfl) ?_
  intro Wo hto hpo
  have HOo : Hid (Row Wo W1.heap.size 36 2 (fun i v => v = [.float .f64 l0, .float .f64 o0].getD i undef)) := hpo
  have HBo : Hid (Below w.heap.size w Wo) := (HB1.out.alloc (Nat.le_of_lt hs1) _).trans (hto.below.mono (Nat.le_of_lt hs1))
  have hso : Wo.heap.size = W1.heap.size + 1 := by rw [hto.size]; simp
  obtain ⟨M, hM⟩ : ∃ M, W1.heap.size + 1 = M := ⟨_, rfl⟩
  obtain ⟨W2, hmk, hb2, hM2⟩ := make_big Wo
  rw [hso, hM] at hmk hb2 hM2
  have HM2 : Hid (Row W2 M 36 2050 (fun _ _ => True)) := hM2
  have HB2 : Hid (Below w.heap.size w W2) := HBo.out.trans (hb2.mono (by omega))
  have HO2 : Hid (Row W2 W1.heap.size 36 2 (fun i v => v = [.float .f64 l0, .float .f64 o0].getD i undef)) := HOo.out.later hb2 (by omega)
  clear hto hpo hb2 hM2 j0 j1 hl0 ho0
  go_wp2
  go_loopw [8] (fun i wx => ∃ k : Nat, k ≤ 1025 ∧ i = .int .i64 k ∧ Below M W2 wx ∧ Row wx M 36 2050 (fun i v => i < k * 2 → v = cityV (fun _ => l0) (fun _ => o0) i)) (fun i _ => 1025 - (intOf i).toNat)
  case atStart => exact ⟨0, Nat.zero_le _, rfl, Below.refl _ _, HM2.out.mono fun i v _ _ h => by omega⟩
  case round =>
    obtain ⟨k, hk, rfl, hbx, hMx⟩ := hrel
    obtain ⟨y0, y1⟩ := cells2 (HO2.out.later hbx (by omega))
    by_cases hlt : k < 1025
    · have hlt' : (k : Int) < 1025 := by omega
      have HBX : Hid (Below M W2 wr) := hbx
      have HMX : Hid (Row wr M 36 2050 (fun i v => i < k * 2 → v = cityV (fun _ => l0) (fun _ => o0) i)) := hMx
      clear hbx hMx
      go_wp2_with (rw [st_guard])
      refine law_storeAt 36 36 M (k * 2) 2050 [.float .f64 l0, .float .f64 o0] _ (info_size Ybad.inf36) (by rfl) (by rfl) HMX.out (by show k * 2 + 2 ≤ 2050; omega) (by rfl) ?_
      intro W3 ht3 hp3
      have hM3 : Hid (Row W3 M 36 2050 (fun i v => i < (k + 1) * 2 → v = cityV (fun _ => l0) (fun _ => o0) i)) := hp3.mono fun i v _ h h' => by
        by_cases e1 : i = k * 2
        · have := h.1 (by omega) (by show i < k * 2 + 2; omega)
          rw [this, e1, cityV_lat, Nat.sub_self]; rfl
        · by_cases e2 : i = k * 2 + 1
          · have := h.1 (by omega) (by show i < k * 2 + 2; omega)
            rw [this, e2, cityV_lon, show k * 2 + 1 - k * 2 = 1 by omega]; rfl
          · exact h.2 (.inl (by omega)) (by omega)
      have hB3 : Hid (Below M W2 W3) := HBX.out.trans ht3.below
      clear ht3 hp3 y0 y1
      have hwk : IntKind.i64.wrap ((k : Int) + 1) = (k : Int) + 1 := by rw [IntKind.wrap_i64]; omega
      go_wp2
      go_roundw
      case rel => exact ⟨k + 1, by omega, by go_num, hB3.out, hM3.out⟩
      case measure => simp [intOf]; omega
    · obtain rfl : k = 1025 := by omega
      have hBw : Below w.heap.size w wr := HB2.out.trans (hbx.mono (by omega))
      have HBW : Hid (Below w.heap.size w wr) := hBw
      have HP : Hid (Calls Ybad.prog 7 #[.agg #[.slice (some ⟨M, 0, none⟩) 1025 1025, .int .i64 1, .float .f64 0], .int .i64 20, .float .f64 4602678819172646912] wr fun e w' => PeersRes (fun i j => K (l0, o0) (l0, o0)) M 1025 1025 1 0 20 4602678819172646912 wr e w') :=
        peers_any (fun i j => K (l0, o0) (l0, o0)) M 1025 1025 (fun _ => l0) (fun _ => o0) 1 0 20 4602678819172646912 wr (by omega) (by omega) (tabs_below hBw HT.out) lb lo lc (HC.out.later hBw) (fun i hi => by
          obtain ⟨v, hv, hv'⟩ := hMx.cell (i := i * 2) (by omega)
          obtain ⟨u, hu, hu'⟩ := hMx.cell (i := i * 2 + 1) (by omega)
          rw [hv, hu, hv' (by omega), hu' (by omega), cityV_lat, cityV_lon]
          exact ⟨rfl, rfl⟩) (fun _ _ _ _ => HD.out)
      have hszr : W2.heap.size ≤ wr.heap.size := hbx.size
      clear hbx hMx y0 y1 hBw
      go_wp2_with (first
        | (go_at_call 7; refine HP.out.mono ?_; rintro e W5 ⟨m2, r2, km, rfl, hm2, lm2, hr2, lr2, hb5, hkm⟩; obtain rfl : km = .slice none 0 0 := (by rcases hkm with ⟨_, h⟩ | ⟨h, _⟩; exact h; omega); have HB5 : Hid (Below wr.heap.size wr W5) := hb5; clear hb5 hm2 hr2 hkm)
        | (rw [st_guard]))
      refine law_store 31 31 W5.heap.size [.slice (some ⟨M, 0, none⟩) 1025 1025, .int .i64 1, .float .f64 0, .int .i64 20, .float .f64 m2, .float .f64 r2, .slice none 0 0] (fun _ _ => True) (info_size Ybad.inf31) (by rfl) (by rfl) (Row.alloc _ _ _ (fun _ _ => True) (fun _ _ _ => trivial)) (by rfl) ?_
      intro W6 ht6 hp6
      have hb6 : Hid (Below w.heap.size w W6) := by
        have hs5 := HB5.out.size
        have hsw := HBW.out.size
        refine Below.trans (b := W5) (HBW.out.trans (HB5.out.mono hsw)) ?_
        exact (Below.trans ((Below.refl _ _).alloc (Nat.le_refl _) _) ht6.below).mono (by omega)
      obtain ⟨m0, m1, m2', m3, m4, m5, m6⟩ := cells7 hp6
      clear ht6 hp6
      have heq := run_nil W6 none 0 0
      go_wp2
      go_ret
      exact ⟨rfl, hb6.out⟩
end Go.Proofs.YbulkcivsDoor
