import Derived.Test.YbulkcivsDoorNB
namespace Go.Proofs.YbulkcivsDoor
open Go.RowKit
set_option linter.unusedVariables false
set_option linter.unusedSimpArgs false

theorem Clss.drewN {w : World} {cb co cc : Nat} (h : Clss w cb co cc) (n : Nat) : Clss (w.drewN n) cb co cc := ⟨h.head, h.cells⟩

set_option maxRecDepth 100000 in
theorem mean_far (n : Int) (rs : Nat) (isps : Int) (pen : Nat) (v : Value) (w : World) (hn : ¬ n ≤ 100000) :
    Calls Ybad.prog 3 #[.int .i64 n, .float .f64 rs, .int .i64 isps, .float .f64 pen, v] w fun e w' => e = .returned (.bool true) ∧ Below w.heap.size w w' := by
  have hn' : (100000 : Int) < n := by omega
  go_enter Ybad.func3, Ybad.ntmps3
  go_wp2
  go_ret
  exact ⟨rfl, Below.refl _ _⟩

set_option maxRecDepth 100000 in
theorem mean_long (n : Int) (rs : Nat) (isps : Int) (pen : Nat) (sa : Option Addr) (c sc : Nat) (w : World) (hn : n ≤ 100000) (hc : ¬ c ≤ 64) :
    Calls Ybad.prog 3 #[.int .i64 n, .float .f64 rs, .int .i64 isps, .float .f64 pen, .slice sa c sc] w fun e w' => e = .returned (.bool true) ∧ Below w.heap.size w w' := by
  have hn' : ¬ (100000 : Int) < n := by omega
  have hc' : (64 : Int) < (c : Int) := by omega
  go_enter Ybad.func3, Ybad.ntmps3
  go_wp2
  go_ret
  exact ⟨rfl, Below.refl _ _⟩

set_option maxRecDepth 100000 in
set_option maxHeartbeats 4000000 in
theorem mean_main (K : Nat × Nat → Nat × Nat → Option Nat) (n : Int) (rs : Nat) (isps : Int) (pen : Nat) (sa : Option Addr) (sb so c sc : Nat) (lat lon : Nat → Nat) (w : World) (hn : n ≤ 100000) (hc : c ≤ 64)
    (hsa : 0 < c → sa = some ⟨sb, so, none⟩) (hit : ∀ i, i < c → w.cell? ⟨sb, so + i * 2, none⟩ = some (.float .f64 (lat i)) ∧ w.cell? ⟨sb, so + i * 2 + 1, none⟩ = some (.float .f64 (lon i)))
    (hT : Tabs w) (lb lo lc : Nat) (hCl : Clss w lb lo lc)
    (hD : ∀ i j, i < c → j < c → ∀ w, Tabs w → Calls Ybad.prog 9 #[.agg #[.float .f64 (lat i), .float .f64 (lon i)], .agg #[.float .f64 (lat j), .float .f64 (lon j)]] w fun e w' => KmRes w (K (lat i, lon i) (lat j, lon j)) e w') :
    Calls Ybad.prog 3 #[.int .i64 n, .float .f64 rs, .int .i64 isps, .float .f64 pen, .slice sa c sc] w fun e w' => e = .returned (.bool true) ∧ Below w.heap.size w w' := by
  have hn' : ¬ (100000 : Int) < n := by omega
  have hc' : ¬ (64 : Int) < (c : Int) := by omega
  have HT : Hid (Tabs w) := hT
  have HC : Hid (Clss w lb lo lc) := hCl
  have HD : Hid (∀ i j, i < c → j < c → ∀ w, Tabs w → Calls Ybad.prog 9 #[.agg #[.float .f64 (lat i), .float .f64 (lon i)], .agg #[.float .f64 (lat j), .float .f64 (lon j)]] w fun e w' => KmRes w (K (lat i, lon i) (lat j, lon j)) e w') := hD
  have H5 : Hid (Calls Ybad.prog 5 #[.slice sa c sc] w fun e w' => e = .returned (.slice (some ⟨w.heap.size, 0, none⟩) c c) ∧ Below w.heap.size w w' ∧ w.heap.size < w'.heap.size ∧ ∀ i, i < c → w'.cell? ⟨w.heap.size, i * 2, none⟩ = some (.float .f64 (lat i)) ∧ w'.cell? ⟨w.heap.size, i * 2 + 1, none⟩ = some (.float .f64 (lon i))) := cities_any sa sb so c sc lat lon w hc hsa hit
  clear hT hCl hit hD hsa
  go_enter Ybad.func3, Ybad.ntmps3
  go_wp2_with (go_at_call 5; refine H5.out.mono ?_; rintro e W1 ⟨rfl, hb1, hs1, hi1⟩; have HB1 : Hid (Below w.heap.size w W1) := hb1; have HI1 : Hid (∀ i, i < c → W1.cell? ⟨w.heap.size, i * 2, none⟩ = some (.float .f64 (lat i)) ∧ W1.cell? ⟨w.heap.size, i * 2 + 1, none⟩ = some (.float .f64 (lon i))) := hi1; clear hb1 hi1)
  go_loopw [12, 13] (fun v i wr => ∃ k : Nat, (k : Int) ≤ max n 0 ∧ v = .int .i64 (totN k) ∧ i = .int .i64 k ∧ wr = W1) (fun _ i _ => n.toNat - (intOf i).toNat)
  case atStart => exact ⟨0, by omega, rfl, rfl, rfl⟩
  case round =>
    obtain ⟨k, hk, rfl, rfl, rfl⟩ := hrel
    by_cases hlt : (k : Int) < n
    · have hwrap : IntKind.i64.wrap ((totN k : Int) + (upN (k % 20) : Int)) = ((totN (k + 1) : Nat) : Int) := by
        have h1 := totN_le (k + 1)
        have h2 : totN (k + 1) = totN k + upN (k % 20) := rfl
        rw [IntKind.wrap_i64]; omega
      have hw1 : IntKind.i64.wrap ((k : Int) + 1) = (k : Int) + 1 := by rw [IntKind.wrap_i64]; omega
      go_wp2_with (go_at_call 6; refine (cup_any k (by omega) _).mono ?_; rintro e w' ⟨rfl, rfl⟩)
      go_roundw
      case rel => exact ⟨k + 1, by omega, rfl, by go_num, by trivial⟩
      case measure => simp [intOf]; omega
    · obtain rfl : k = n.toNat := by omega
      have HP : Hid (∀ m, Calls Ybad.prog 7 #[.agg #[.slice (some ⟨w.heap.size, 0, none⟩) c c, .int .i64 isps, .float .f64 pen], .int .i64 n, .float .f64 rs] (wr.drewN m) fun e w' => PeersRes (fun i j => K (lat i, lon i) (lat j, lon j)) w.heap.size c c isps pen n rs (wr.drewN m) e w') := fun m =>
        peers_any _ w.heap.size c c lat lon isps pen n rs _ hn (by omega) ((tabs_below HB1.out HT.out).drewN m) lb lo lc ((HC.out.later HB1.out).drewN m) HI1.out HD.out
      go_wp2_with (first
        | (rw [fop_guard]; refine law_fquo (by rfl) (by rfl) ?_; intro mean nm hm lm)
        | (go_at_call 7; refine (HP.out nm).mono ?_; rintro e W2 ⟨m2, r2, km, rfl, hm2, lm2, hr2, lr2, hb2, hkm⟩; obtain ⟨ka, kl, kc, rfl⟩ : ∃ ka kl kc, km = .slice ka kl kc := (by rcases hkm with ⟨_, h⟩ | ⟨_, _, _, h, _⟩ <;> exact ⟨_, _, _, h⟩); clear hkm; have HB2 : Hid (Below (wr.drewN nm).heap.size (wr.drewN nm) W2) := hb2; have HM2 : Hid (_ = _) := hm2; have HR2 : Hid (_ = _) := hr2; clear hb2 hm2 hr2)
        | (rw [st_guard]))
      refine law_store 31 31 W2.heap.size [.slice (some ⟨w.heap.size, 0, none⟩) c c, .int .i64 isps, .float .f64 pen, .int .i64 n, .float .f64 m2, .float .f64 r2, .slice ka kl kc] (fun _ _ => True) (info_size Ybad.inf31) (by rfl) (by rfl) (Row.alloc _ _ _ (fun _ _ => True) (fun _ _ _ => trivial)) (by rfl) ?_
      intro W3 ht3 hp3
      have hb3 : Hid (Below w.heap.size w W3) := by
        refine Below.trans (b := W2) ?_ ?_
        · exact (below_drewN HB1.out nm).trans (HB2.out.mono (Nat.le_of_lt hs1))
        · have hsz := HB2.out.size
          have hsz2 : wr.heap.size ≤ W2.heap.size := hsz
          exact (Below.trans ((Below.refl _ _).alloc (Nat.le_refl _) _) ht3.below).mono (by omega)
      obtain ⟨m0, m1, m2', m3, m4, m5, m6⟩ := cells7 hp3
      have e1 : Hid (cl m2 = cl mean) := HM2.out.trans hm.out.symm
      clear ht3 hp3
      obtain ⟨rate, nr, hrun, hr, lr⟩ := run_fmul (P := Ybad.prog) 22 rs mean W3
      have e2 : Hid (cl r2 = cl rate) := HR2.out.trans (by rw [hr, e1.out])
      clear hr
      go_wp2_with (go_at_call 8; refine (eq_same _ _ (by first | exact e1.out | exact e2.out | rfl) _).mono ?_; rintro e w' ⟨rfl, rfl⟩)
      go_ret
      exact ⟨by simp, below_drewN hb3.out _⟩
end Go.Proofs.YbulkcivsDoor
