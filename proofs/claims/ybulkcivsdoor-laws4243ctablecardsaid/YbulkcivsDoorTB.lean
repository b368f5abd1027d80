import Derived.Test.YbulkcivsDoorTA
namespace Go.Proofs.YbulkcivsDoor
open Go.RowKit
set_option linter.unusedVariables false
set_option linter.unusedSimpArgs false

theorem fin_of {x : Nat} (h1 : nanB x = false) (h2 : infB x = false) : x % SW < IR := by
  have a : ¬ IR < x % SW := by simpa [nanB] using h1
  have b : ¬ x % SW = IR := by simpa [infB] using h2
  omega

set_option maxRecDepth 100000 in
set_option maxHeartbeats 8000000 in
theorem tab_main (D : Nat → Nat → Option Nat) (sa : Option Addr) (sb so c sc : Nat) (lat lon : Nat → Nat) (w : World) (hc : c ≤ 64)
    (hsa : 0 < c → sa = some ⟨sb, so, none⟩) (hit : ∀ i, i < c → w.cell? ⟨sb, so + i * 2, none⟩ = some (.float .f64 (lat i)) ∧ w.cell? ⟨sb, so + i * 2 + 1, none⟩ = some (.float .f64 (lon i)))
    (hT : Tabs w) (lb lo lc : Nat) (hCl : Clss w lb lo lc) (hlt : ∀ i, i < c → lat i < 2 ^ 64 ∧ lon i < 2 ^ 64)
    (hD : ∀ i j, i < c → j < c → ∀ w, Tabs w → Calls Ybad.prog 9 #[.agg #[.float .f64 (lat i), .float .f64 (lon i)], .agg #[.float .f64 (lat j), .float .f64 (lon j)]] w fun e w' => KmRes w (D i j) e w')
    (hsym : ∀ i j, i < c → j < c → D i j = D j i) (hzero : ∀ i, i < c → lat i % SW < IR → lon i % SW < IR → D i i = some 0) :
    Calls Ybad.prog 4 #[.slice sa c sc, .bool false] w fun e w' => e = .returned (.bool true) ∧ Below w.heap.size w w' := by
  have hc' : ¬ (64 : Int) < (c : Int) := by omega
  have HT : Hid (Tabs w) := hT
  have HC : Hid (Clss w lb lo lc) := hCl
  have HL : Hid (∀ i, i < c → lat i < 2 ^ 64 ∧ lon i < 2 ^ 64) := hlt
  have HS : Hid (∀ i j, i < c → j < c → D i j = D j i) := hsym
  have HZ : Hid (∀ i, i < c → lat i % SW < IR → lon i % SW < IR → D i i = some 0) := hzero
  have HD : Hid (∀ i j, i < c → j < c → ∀ w, Tabs w → Calls Ybad.prog 9 #[.agg #[.float .f64 (lat i), .float .f64 (lon i)], .agg #[.float .f64 (lat j), .float .f64 (lon j)]] w fun e w' => KmRes w (D i j) e w') := hD
  have H5 : Hid (Calls Ybad.prog 5 #[.slice sa c sc] w fun e w' => e = .returned (.slice (some ⟨w.heap.size, 0, none⟩) c c) ∧ Below w.heap.size w w' ∧ w.heap.size < w'.heap.size ∧ ∀ i, i < c → w'.cell? ⟨w.heap.size, i * 2, none⟩ = some (.float .f64 (lat i)) ∧ w'.cell? ⟨w.heap.size, i * 2 + 1, none⟩ = some (.float .f64 (lon i))) := cities_any sa sb so c sc lat lon w hc hsa hit
  clear hT hCl hit hD hsa hlt hsym hzero
  go_enter Ybad.func4, Ybad.ntmps4
  go_wp2_with (first
    | (go_at_call 5; refine H5.out.mono ?_; rintro e W1 ⟨rfl, hb1, hs1, hi1⟩; have HB1 : Hid (Below w.heap.size w W1) := hb1; have HI1 : Hid (∀ i, i < c → W1.cell? ⟨w.heap.size, i * 2, none⟩ = some (.float .f64 (lat i)) ∧ W1.cell? ⟨w.heap.size, i * 2 + 1, none⟩ = some (.float .f64 (lon i))) := hi1; clear hb1 hi1;
       have HP : Hid (Calls Ybad.prog 7 #[.agg #[.slice (some ⟨w.heap.size, 0, none⟩) c c, .int .i64 1, .float .f64 0], .int .i64 20, .float .f64 4602678819172646912] W1 fun e w' => PeersRes D w.heap.size c c 1 0 20 4602678819172646912 W1 e w') := peers_any D w.heap.size c c lat lon 1 0 20 4602678819172646912 W1 (by omega) (by omega) (tabs_below HB1.out HT.out) lb lo lc (HC.out.later HB1.out) HI1.out HD.out)
    | (go_at_call 7; refine HP.out.mono ?_; rintro e W5 ⟨m2, r2, km, rfl, hm2, lm2, hr2, lr2, hb5, hkm⟩; obtain ⟨kb, hkb, rfl, hrow⟩ : ∃ kb, W1.heap.size ≤ kb ∧ km = .slice (some ⟨kb, 0, none⟩) (c * c) (c * c) ∧ Row W5 kb 22 (c * c) (fun i v => FV (D (i / c) (i % c)) v) := (by rcases hkm with ⟨h, _⟩ | ⟨_, h⟩; omega; exact h); obtain ⟨q, hq⟩ : ∃ q, c * c = q := ⟨_, rfl⟩; rw [hq] at hrow ⊢; have HB5 : Hid (Below W1.heap.size W1 W5) := hb5; have HR5 : Hid (Row W5 kb 22 q (fun i v => FV (D (i / c) (i % c)) v)) := hrow; clear hb5 hm2 hr2 hkm hrow)
    | (rw [st_guard]))
  refine law_store 31 31 W5.heap.size [.slice (some ⟨w.heap.size, 0, none⟩) c c, .int .i64 1, .float .f64 0, .int .i64 20, .float .f64 m2, .float .f64 r2, .slice (some ⟨kb, 0, none⟩) q q] (fun _ _ => True) (info_size Ybad.inf31) (by rfl) (by rfl) (Row.alloc _ _ _ (fun _ _ => True) (fun _ _ _ => trivial)) (by rfl) ?_
  intro W6 ht6 hp6
  have hlt5 := HR5.out.lt
  have hb6 : Hid (Below W5.heap.size W5 W6) := Below.trans ((Below.refl _ _).alloc (Nat.le_refl _) _) ht6.below
  have hs5 := HB5.out.size
  have HB6 : Hid (Below w.heap.size w W6) := (HB1.out.trans (HB5.out.mono (by omega))).trans (hb6.out.mono (by omega))
  have HR6 : Hid (Row W6 kb 22 q (fun i v => FV (D (i / c) (i % c)) v)) := HR5.out.later hb6.out hlt5
  have HI6 : Hid (∀ i, i < c → W6.cell? ⟨w.heap.size, i * 2, none⟩ = some (.float .f64 (lat i)) ∧ W6.cell? ⟨w.heap.size, i * 2 + 1, none⟩ = some (.float .f64 (lon i))) := fun i hi => by
    have h17 : Below W1.heap.size W1 W6 := HB5.out.trans (hb6.out.mono (by omega))
    exact ⟨cell_later h17 (HI1.out i hi).1, cell_later h17 (HI1.out i hi).2⟩
  obtain ⟨P, hP⟩ : ∃ P, W5.heap.size = P := ⟨_, rfl⟩
  rw [hP]
  have m6 : W6.cell? ⟨P, 6, none⟩ = some (.slice (some ⟨kb, 0, none⟩) q q) := by rw [← hP]; exact (cells7 hp6).2.2.2.2.2.2
  have M6 : Hid (W6.cell? ⟨P, 6, none⟩ = some (.slice (some ⟨kb, 0, none⟩) q q)) := m6
  have hq2 : q ≤ 64 * 64 := by rw [← hq]; exact Nat.mul_le_mul hc hc
  have hwq : IntKind.i64.wrap ((c : Int) * (c : Int)) = (q : Int) := by
    have : (c : Int) * (c : Int) = (q : Int) := by rw [← hq]; simp
    rw [this, IntKind.wrap_i64]; omega
  have heq := run_nil W6 (some ⟨kb, 0, none⟩) q q
  clear ht6 hp6
  go_wp2
  go_loopw [12] (fun i wx => ∃ k : Nat, k ≤ c ∧ i = .int .i64 k ∧ Below W6.heap.size W6 wx) (fun i _ => c - (intOf i).toNat)
  case atStart => exact ⟨0, Nat.zero_le _, rfl, Below.refl _ _⟩
  case round =>
    obtain ⟨k, hk, rfl, hbx⟩ := hrel
    clear m6 heq
    by_cases hlt : k < c
    · have hlt' : (k : Int) < (c : Int) := by omega
      have HBX : Hid (Below W6.heap.size W6 wr) := hbx
      clear hbx
      obtain ⟨y, hy⟩ : ∃ y, k * c = y := ⟨_, rfl⟩
      have hyq : y + c ≤ q := by rw [← hy, ← hq, ← Nat.succ_mul]; exact Nat.mul_le_mul_right _ hlt
      have hw1 : IntKind.i64.wrap ((k : Int) * (c : Int)) = (y : Int) := by
        have : (k : Int) * (c : Int) = (y : Int) := by rw [← hy]; simp
        rw [this, IntKind.wrap_i64]; omega
      go_wp2
      go_loopw [13] (fun i wy => ∃ j : Nat, j ≤ c ∧ i = .int .i64 j ∧ Below W6.heap.size W6 wy) (fun i _ => c - (intOf i).toNat)
      case atStart => exact ⟨0, Nat.zero_le _, rfl, HBX.out⟩
      case round =>
        obtain ⟨j, hj, rfl, hby⟩ := hrel
        have HBY : Hid (Below W6.heap.size W6 wr) := hby
        clear hby
        by_cases hlt2 : j < c
        · have hlt2' : (j : Int) < (c : Int) := by omega
          obtain ⟨z, hz⟩ : ∃ z, j * c = z := ⟨_, rfl⟩
          have hzq : z + c ≤ q := by rw [← hz, ← hq, ← Nat.succ_mul]; exact Nat.mul_le_mul_right _ hlt2
          have hw2 : IntKind.i64.wrap ((j : Int) * (c : Int)) = (z : Int) := by
            have : (j : Int) * (c : Int) = (z : Int) := by rw [← hz]; simp
            rw [this, IntKind.wrap_i64]; omega
          have hw3 : IntKind.i64.wrap ((y : Int) + (j : Int)) = ((y + j : Nat) : Int) := by rw [IntKind.wrap_i64]; omega
          have hw4 : IntKind.i64.wrap ((z : Int) + (k : Int)) = ((z + k : Nat) : Int) := by rw [IntKind.wrap_i64]; omega
          obtain ⟨r1, hv1, hc1, hl1⟩ : ∃ r1, W6.cell? ⟨kb, 0 + (y + j) * 1, none⟩ = some (.float .f64 r1) ∧ cl r1 = D k j ∧ r1 < 2 ^ 64 := by
            obtain ⟨v, hv, r, rfl, h1, h2⟩ := HR6.out.cell (i := y + j) (by omega)
            have hdiv : (y + j) / c = k := by rw [← hy, Nat.mul_comm, Nat.mul_add_div (by omega)]; simp [Nat.div_eq_of_lt hlt2]
            have hmod : (y + j) % c = j := by rw [← hy, Nat.mul_comm, Nat.mul_add_mod, Nat.mod_eq_of_lt hlt2]
            rw [hdiv, hmod] at h1
            exact ⟨r, by simpa using hv, h1, h2⟩
          obtain ⟨r2', hv2, hc2, hl2⟩ : ∃ r2', W6.cell? ⟨kb, 0 + (z + k) * 1, none⟩ = some (.float .f64 r2') ∧ cl r2' = D j k ∧ r2' < 2 ^ 64 := by
            obtain ⟨v, hv, r, rfl, h1, h2⟩ := HR6.out.cell (i := z + k) (by omega)
            have hdiv : (z + k) / c = j := by rw [← hz, Nat.mul_comm, Nat.mul_add_div (by omega)]; simp [Nat.div_eq_of_lt hlt]
            have hmod : (z + k) % c = k := by rw [← hz, Nat.mul_comm, Nat.mul_add_mod, Nat.mod_eq_of_lt hlt]
            rw [hdiv, hmod] at h1
            exact ⟨r, by simpa using hv, h1, h2⟩
          have V1 : Hid (W6.cell? ⟨kb, 0 + (y + j) * 1, none⟩ = some (.float .f64 r1)) := hv1
          have V2 : Hid (W6.cell? ⟨kb, 0 + (z + k) * 1, none⟩ = some (.float .f64 r2')) := hv2
          have E1 : Hid (cl r1 = D k j) := hc1
          have E2 : Hid (cl r1 = cl r2') := by
            show cl r1 = cl r2'
            rw [hc1, hc2]; exact HS.out k j hlt hlt2
          clear hv1 hv2 hc1 hc2
          go_wp2
          refine wp_region_obs2 (L := 0) (C := fun b w' => Below W6.heap.size W6 w')
            (R := fun o v => (o = 17 → FV (D k j) v) ∧ (o ≠ 17 → v = [.pointer (some ⟨P, 6, none⟩), .slice (some ⟨kb, 0, none⟩) q q, .int .i64 k, .int .i64 c, .int .i64 y, .int .i64 j, .int .i64 (y + j : Nat), .pointer (some ⟨kb, 0 + (y + j) * 1, none⟩), .float .f64 r1, .slice (some ⟨w.heap.size, 0, none⟩) c c, .int .i64 k, .pointer (some ⟨w.heap.size, 0 + k * 2, none⟩), .agg #[.float .f64 (lat k), .float .f64 (lon k)], .slice (some ⟨w.heap.size, 0, none⟩) c c, .int .i64 j, .pointer (some ⟨w.heap.size, 0 + j * 2, none⟩), .agg #[.float .f64 (lat j), .float .f64 (lon j)], undef, .bool true, .bool (!true)].getD o undef))
            (by kernel_rfl) (by kernel_rfl) HBY.out.drew ⟨?o0, ?o1, ?o2, ?o3, ?o4, ?o5, ?o6, ?o7, ?o8, ?o9, ?o10, ?o11, ?o12, ?o13, ?o14, ?o15, ?o16, ?o17, ?o18, ?o19, trivial⟩ ?fin
          case o0 => exact fun b a w' hp hC => LUpon_field31 hC (hp.rest 11 (by kernel_rfl)) ⟨fun e => (by cases e), fun _ => rfl⟩
          case o1 => exact fun b a w' hp hC => LUpon_load29 hC ((hp.on ⟨0, .data⟩ (by simp) rfl _ 71 rfl rfl).2 (by decide)) (cell_later hC M6.out) ⟨fun e => (by cases e), fun _ => rfl⟩
          case o2 => exact fun b a w' hp hC => LUpon_move hC ⟨fun e => (by cases e), fun _ => hp.rest 12 (by kernel_rfl)⟩
          case o3 => exact fun b a w' hp hC => LUpon_move hC ⟨fun e => (by cases e), fun _ => hp.rest 10 (by kernel_rfl)⟩
          case o4 => exact fun b a w' hp hC => LUpon_mul3 hC ((hp.on ⟨2, .data⟩ (by simp) rfl _ 73 rfl rfl).2 (by decide)) ((hp.on ⟨3, .data⟩ (by simp) rfl _ 74 rfl rfl).2 (by decide)) hw1 ⟨fun e => (by cases e), fun _ => rfl⟩
          case o5 => exact fun b a w' hp hC => LUpon_move hC ⟨fun e => (by cases e), fun _ => hp.rest 13 (by kernel_rfl)⟩
          case o6 => exact fun b a w' hp hC => LUpon_add3 hC ((hp.on ⟨4, .data⟩ (by simp) rfl _ 75 rfl rfl).2 (by decide)) ((hp.on ⟨5, .data⟩ (by simp) rfl _ 76 rfl rfl).2 (by decide)) hw3 ⟨fun e => (by cases e), fun _ => rfl⟩
          case o7 => exact fun b a w' hp hC => LUpon_index Ybad.underlying29 (run_size Ybad.inf22) hC ((hp.on ⟨1, .data⟩ (by simp) rfl _ 72 rfl rfl).2 (by decide)) ((hp.on ⟨6, .data⟩ (by simp) rfl _ 77 rfl rfl).2 (by decide)) (by omega) ⟨fun e => (by cases e), fun _ => rfl⟩
          case o8 => exact fun b a w' hp hC => LUpon_load hC ((hp.on ⟨7, .data⟩ (by simp) rfl _ 78 rfl rfl).2 (by decide)) (cell_later hC V1.out) ⟨fun e => (by cases e), fun _ => rfl⟩
          case o9 => exact fun b a w' hp hC => LUpon_move hC ⟨fun e => (by cases e), fun _ => hp.rest 5 (by kernel_rfl)⟩
          case o10 => exact fun b a w' hp hC => LUpon_move hC ⟨fun e => (by cases e), fun _ => hp.rest 12 (by kernel_rfl)⟩
          case o11 => exact fun b a w' hp hC => LUpon_index Ybad.underlying24 (run_size Ybad.inf36) hC ((hp.on ⟨9, .data⟩ (by simp) rfl _ 80 rfl rfl).2 (by decide)) ((hp.on ⟨10, .data⟩ (by simp) rfl _ 81 rfl rfl).2 (by decide)) hlt ⟨fun e => (by cases e), fun _ => rfl⟩
          case o12 => exact fun b a w' hp hC => LUpon_load36 hC ((hp.on ⟨11, .data⟩ (by simp) rfl _ 82 rfl rfl).2 (by decide)) (by rw [Nat.zero_add]; exact cell_later hC (HI6.out k hlt).1) (by rw [Nat.zero_add]; exact cell_later hC (HI6.out k hlt).2) ⟨fun e => (by cases e), fun _ => rfl⟩
          case o13 => exact fun b a w' hp hC => LUpon_move hC ⟨fun e => (by cases e), fun _ => hp.rest 5 (by kernel_rfl)⟩
          case o14 => exact fun b a w' hp hC => LUpon_move hC ⟨fun e => (by cases e), fun _ => hp.rest 13 (by kernel_rfl)⟩
          case o15 => exact fun b a w' hp hC => LUpon_index Ybad.underlying24 (run_size Ybad.inf36) hC ((hp.on ⟨13, .data⟩ (by simp) rfl _ 84 rfl rfl).2 (by decide)) ((hp.on ⟨14, .data⟩ (by simp) rfl _ 85 rfl rfl).2 (by decide)) hlt2 ⟨fun e => (by cases e), fun _ => rfl⟩
          case o16 => exact fun b a w' hp hC => LUpon_load36 hC ((hp.on ⟨15, .data⟩ (by simp) rfl _ 86 rfl rfl).2 (by decide)) (by rw [Nat.zero_add]; exact cell_later hC (HI6.out j hlt2).1) (by rw [Nat.zero_add]; exact cell_later hC (HI6.out j hlt2).2) ⟨fun e => (by cases e), fun _ => rfl⟩
          case o17 =>
            intro b a w' hp hC
            refine LUpon_call2 (.inr rfl) ((hp.on ⟨12, .data⟩ (by simp) rfl _ 83 rfl rfl).2 (by decide)) ((hp.on ⟨16, .data⟩ (by simp) rfl _ 87 rfl rfl).2 (by decide)) ?_
            refine (HD.out k j hlt hlt2 w' (tabs_below (HB6.out.trans (hC.mono HB6.out.size)) HT.out)).mono ?_
            rintro e w'' ⟨r, he, hcl, hl, hb⟩
            exact ⟨_, he, ⟨fun _ => ⟨r, rfl, hcl, hl⟩, fun h => absurd rfl h⟩, hC.trans (hb.mono hC.size)⟩
          case o18 =>
            intro b a w' hp hC
            obtain ⟨r, hr17, hcl, hl⟩ := (hp.on ⟨17, .data⟩ (by simp) rfl _ 88 rfl rfl).1 rfl
            refine LUpon_call2 (.inl rfl) ((hp.on ⟨8, .data⟩ (by simp) rfl _ 79 rfl rfl).2 (by decide)) hr17 ?_
            refine (eq_same r1 r (E1.out.trans hcl.symm) w').mono ?_
            rintro e w'' ⟨he, rfl⟩
            exact ⟨_, he, ⟨fun e => (by cases e), fun _ => rfl⟩, hC⟩
          case o19 => exact fun b a w' hp hC => LUpon_not hC ((hp.on ⟨18, .data⟩ (by simp) rfl _ 89 rfl rfl).2 (by decide)) ⟨fun e => (by cases e), fun _ => rfl⟩
          case fin =>
            intro a w' he hC
            obtain ⟨r, hr17, hcl, hl⟩ := (he.done 17 _ 88 rfl rfl).1 rfl
            have HB7 : Hid (Below W6.heap.size W6 w') := hC
            clear hC hcl
            obtain rfl := he.act (c := 0) (by kernel_rfl) [.pointer (some ⟨P, 6, none⟩), .slice (some ⟨kb, 0, none⟩) q q, .int .i64 k, .int .i64 c, .int .i64 y, .int .i64 j, .int .i64 (y + j : Nat), .pointer (some ⟨kb, 0 + (y + j) * 1, none⟩), .float .f64 r1, .slice (some ⟨w.heap.size, 0, none⟩) c c, .int .i64 k, .pointer (some ⟨w.heap.size, 0 + k * 2, none⟩), .agg #[.float .f64 (lat k), .float .f64 (lon k)], .slice (some ⟨w.heap.size, 0, none⟩) c c, .int .i64 j, .pointer (some ⟨w.heap.size, 0 + j * 2, none⟩), .agg #[.float .f64 (lat j), .float .f64 (lon j)], .float .f64 r, .bool true, .bool (!true)] (fun o op d ho hd => by
              by_cases e : o = 17
              · subst e
                cases ho
                cases hd
                exact hr17
              · have := (he.done o op d ho hd).2 e
                rw [this]
                rcases o with _ | _ | _ | _ | _ | _ | _ | _ | _ | _ | _ | _ | _ | _ | _ | _ | _ | _ | _ | _ | o
                all_goals first | rfl | exact absurd rfl e)
            clear he hr17
            simp only [putAll, List.headD, List.tail, Act.put, List.setIfInBounds_toArray, List.set_cons_succ, List.set_cons_zero]
            go_wp2
            refine wp_region_obs2 (L := 0) (C := fun b w' => Below W6.heap.size W6 w')
              (R := fun o v => v = [.pointer (some ⟨P, 6, none⟩), .slice (some ⟨kb, 0, none⟩) q q, .int .i64 k, .int .i64 c, .int .i64 y, .int .i64 j, .int .i64 (y + j : Nat), .pointer (some ⟨kb, 0 + (y + j) * 1, none⟩), .float .f64 r1, .pointer (some ⟨P, 6, none⟩), .slice (some ⟨kb, 0, none⟩) q q, .int .i64 j, .int .i64 c, .int .i64 z, .int .i64 k, .int .i64 (z + k : Nat), .pointer (some ⟨kb, 0 + (z + k) * 1, none⟩), .float .f64 r2', .bool true, .bool (!true)].getD o undef)
              (by kernel_rfl) (by kernel_rfl) HB7.out.drew ⟨?p0, ?p1, ?p2, ?p3, ?p4, ?p5, ?p6, ?p7, ?p8, ?p9, ?p10, ?p11, ?p12, ?p13, ?p14, ?p15, ?p16, ?p17, ?p18, ?p19, trivial⟩ ?pfin
            case p0 => exact fun b a w' hp hC => LUpon_field31 hC (hp.rest 11 (by kernel_rfl)) rfl
            case p1 => exact fun b a w' hp hC => LUpon_load29 hC (hp.on ⟨0, .data⟩ (by simp) rfl _ 91 rfl rfl) (cell_later hC M6.out) rfl
            case p2 => exact fun b a w' hp hC => LUpon_move hC (hp.rest 12 (by kernel_rfl))
            case p3 => exact fun b a w' hp hC => LUpon_move hC (hp.rest 10 (by kernel_rfl))
            case p4 => exact fun b a w' hp hC => LUpon_mul3 hC (hp.on ⟨2, .data⟩ (by simp) rfl _ 93 rfl rfl) (hp.on ⟨3, .data⟩ (by simp) rfl _ 94 rfl rfl) hw1 rfl
            case p5 => exact fun b a w' hp hC => LUpon_move hC (hp.rest 13 (by kernel_rfl))
            case p6 => exact fun b a w' hp hC => LUpon_add3 hC (hp.on ⟨4, .data⟩ (by simp) rfl _ 95 rfl rfl) (hp.on ⟨5, .data⟩ (by simp) rfl _ 96 rfl rfl) hw3 rfl
            case p7 => exact fun b a w' hp hC => LUpon_index Ybad.underlying29 (run_size Ybad.inf22) hC (hp.on ⟨1, .data⟩ (by simp) rfl _ 92 rfl rfl) (hp.on ⟨6, .data⟩ (by simp) rfl _ 97 rfl rfl) (by omega) rfl
            case p8 => exact fun b a w' hp hC => LUpon_load hC (hp.on ⟨7, .data⟩ (by simp) rfl _ 98 rfl rfl) (cell_later hC V1.out) rfl
            case p9 => exact fun b a w' hp hC => LUpon_field31 hC (hp.rest 11 (by kernel_rfl)) rfl
            case p10 => exact fun b a w' hp hC => LUpon_load29 hC (hp.on ⟨9, .data⟩ (by simp) rfl _ 100 rfl rfl) (cell_later hC M6.out) rfl
            case p11 => exact fun b a w' hp hC => LUpon_move hC (hp.rest 13 (by kernel_rfl))
            case p12 => exact fun b a w' hp hC => LUpon_move hC (hp.rest 10 (by kernel_rfl))
            case p13 => exact fun b a w' hp hC => LUpon_mul3 hC (hp.on ⟨11, .data⟩ (by simp) rfl _ 102 rfl rfl) (hp.on ⟨12, .data⟩ (by simp) rfl _ 103 rfl rfl) hw2 rfl
            case p14 => exact fun b a w' hp hC => LUpon_move hC (hp.rest 12 (by kernel_rfl))
            case p15 => exact fun b a w' hp hC => LUpon_add3 hC (hp.on ⟨13, .data⟩ (by simp) rfl _ 104 rfl rfl) (hp.on ⟨14, .data⟩ (by simp) rfl _ 105 rfl rfl) hw4 rfl
            case p16 => exact fun b a w' hp hC => LUpon_index Ybad.underlying29 (run_size Ybad.inf22) hC (hp.on ⟨10, .data⟩ (by simp) rfl _ 101 rfl rfl) (hp.on ⟨15, .data⟩ (by simp) rfl _ 106 rfl rfl) (by omega) rfl
            case p17 => exact fun b a w' hp hC => LUpon_load hC (hp.on ⟨16, .data⟩ (by simp) rfl _ 107 rfl rfl) (cell_later hC V2.out) rfl
            case p18 =>
              intro b a w' hp hC
              refine LUpon_call2 (.inl rfl) (hp.on ⟨8, .data⟩ (by simp) rfl _ 99 rfl rfl) (hp.on ⟨17, .data⟩ (by simp) rfl _ 108 rfl rfl) ?_
              refine (eq_same r1 r2' E2.out w').mono ?_
              rintro e w'' ⟨he, rfl⟩
              exact ⟨_, he, rfl, hC⟩
            case p19 => exact fun b a w' hp hC => LUpon_not hC (hp.on ⟨18, .data⟩ (by simp) rfl _ 109 rfl rfl) rfl
            case pfin =>
              intro a w' he hC
              have HB8 : Hid (Below W6.heap.size W6 w') := hC
              clear hC
              obtain rfl := he.of_list (c := 0) (by kernel_rfl)
              clear he
              simp only [putAll, List.headD, List.tail, Act.put, List.setIfInBounds_toArray, List.set_cons_succ, List.set_cons_zero]
              have hwj : IntKind.i64.wrap ((j : Int) + 1) = (j : Int) + 1 := by rw [IntKind.wrap_i64]; omega
              go_wp2
              go_roundw
              case rel => exact ⟨j + 1, by omega, by go_num, HB8.out⟩
              case measure => simp [intOf]; omega
        · have hlt2' : ¬ (j : Int) < (c : Int) := by omega
          obtain ⟨i0, i1⟩ := HI6.out k hlt
          obtain ⟨g0, g1⟩ := HL.out k hlt
          have i0' : wr.cell? ⟨w.heap.size, k * 2, none⟩ = some (.float .f64 (lat k)) := cell_later HBY.out i0
          have i1' : wr.cell? ⟨w.heap.size, k * 2 + 1, none⟩ = some (.float .f64 (lon k)) := cell_later HBY.out i1
          clear i0 i1
          go_wp2_with (rw [st_guard])
          refine law_store 36 36 wr.heap.size [.float .f64 (lat k), .float .f64 (lon k)] (fun _ _ => True) (info_size Ybad.inf36) (by rfl) (by rfl) (Row.alloc _ _ _ (fun _ _ => True) (fun _ _ _ => trivial)) (by rfl) ?_
          intro W8 ht8 hp8
          obtain ⟨x0, x1⟩ := cells2 hp8
          rw [Nat.zero_add] at x1
          have HB8 : Hid (Below W6.heap.size W6 W8) := HBY.out.trans ((Below.trans ((Below.refl _ _).alloc (Nat.le_refl _) _) ht8.below).mono HBY.out.size)
          have hwk : IntKind.i64.wrap ((k : Int) + 1) = (k : Int) + 1 := by rw [IntKind.wrap_i64]; omega
          clear ht8 hp8 i0' i1'
          cases n0 : nanB (lat k) with
          | true =>
            go_wp2_with (first | (go_at_call 10; refine (isNaN_any _ _).mono ?_; rintro e w' ⟨rfl, rfl⟩) | (go_at_call 11; refine (isInf_any _ (by first | exact g0 | exact g1) (by first | exact n0 | exact n1) _).mono ?_; rintro e w' ⟨rfl, rfl⟩))
            go_roundw
            case rel => exact ⟨k + 1, by omega, by go_num, HB8.out⟩
            case measure => simp [intOf]; omega
          | false =>
            cases f0 : infB (lat k) with
            | true =>
              go_wp2_with (first | (go_at_call 10; refine (isNaN_any _ _).mono ?_; rintro e w' ⟨rfl, rfl⟩) | (go_at_call 11; refine (isInf_any _ (by first | exact g0 | exact g1) (by first | exact n0 | exact n1) _).mono ?_; rintro e w' ⟨rfl, rfl⟩))
              go_roundw
              case rel => exact ⟨k + 1, by omega, by go_num, HB8.out⟩
              case measure => simp [intOf]; omega
            | false =>
              cases n1 : nanB (lon k) with
              | true =>
                go_wp2_with (first | (go_at_call 10; refine (isNaN_any _ _).mono ?_; rintro e w' ⟨rfl, rfl⟩) | (go_at_call 11; refine (isInf_any _ (by first | exact g0 | exact g1) (by first | exact n0 | exact n1) _).mono ?_; rintro e w' ⟨rfl, rfl⟩))
                go_roundw
                case rel => exact ⟨k + 1, by omega, by go_num, HB8.out⟩
                case measure => simp [intOf]; omega
              | false =>
                cases f1 : infB (lon k) with
                | true =>
                  go_wp2_with (first | (go_at_call 10; refine (isNaN_any _ _).mono ?_; rintro e w' ⟨rfl, rfl⟩) | (go_at_call 11; refine (isInf_any _ (by first | exact g0 | exact g1) (by first | exact n0 | exact n1) _).mono ?_; rintro e w' ⟨rfl, rfl⟩))
                  go_roundw
                  case rel => exact ⟨k + 1, by omega, by go_num, HB8.out⟩
                  case measure => simp [intOf]; omega
                | false =>
                  have hzz := HZ.out k hlt (fin_of n0 f0) (fin_of n1 f1)
                  obtain ⟨x, hx⟩ : ∃ x, y + k = x := ⟨_, rfl⟩
                  have hw5 : IntKind.i64.wrap ((y : Int) + (k : Int)) = (x : Int) := by rw [IntKind.wrap_i64]; omega
                  have hxq : (x : Int) < (q : Int) := by omega
                  have hcell : W8.cell? ⟨kb, x, none⟩ = some (.float .f64 0) := by
                    refine cell_later HB8.out ?_
                    obtain ⟨v, hv, r, rfl, h1, h2⟩ := HR6.out.cell (i := x) (by omega)
                    have hdiv : x / c = k := by rw [← hx, ← hy, Nat.mul_comm, Nat.mul_add_div (by omega)]; simp [Nat.div_eq_of_lt hlt]
                    have hmod : x % c = k := by rw [← hx, ← hy, Nat.mul_comm, Nat.mul_add_mod, Nat.mod_eq_of_lt hlt]
                    rw [hdiv, hmod, hzz] at h1
                    rw [hv, ← (cl_eq_some h1).1]
                  have m8 : W8.cell? ⟨P, 6, none⟩ = some (.slice (some ⟨kb, 0, none⟩) q q) := cell_later HB8.out M6.out
                  have ho : FloatKind.f64.format.order 0 0 = some .eq := by decide
                  clear hzz hx
                  go_wp2_with (first | (go_at_call 10; refine (isNaN_any _ _).mono ?_; rintro e w' ⟨rfl, rfl⟩) | (go_at_call 11; refine (isInf_any _ (by first | exact g0 | exact g1) (by first | exact n0 | exact n1) _).mono ?_; rintro e w' ⟨rfl, rfl⟩))
                  go_roundw
                  case rel => exact ⟨k + 1, by omega, by go_num, HB8.out⟩
                  case measure => simp [intOf]; omega
    · have hlt' : ¬ (k : Int) < (c : Int) := by omega
      have HBX : Hid (Below W6.heap.size W6 wr) := hbx
      clear hbx
      go_wp2
      go_ret
      exact ⟨rfl, HB6.out.trans (HBX.out.mono HB6.out.size)⟩
end Go.Proofs.YbulkcivsDoor
