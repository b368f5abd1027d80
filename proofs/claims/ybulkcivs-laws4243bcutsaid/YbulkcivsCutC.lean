import Derived.Test.YbulkcivsCutC0
namespace Go.Proofs.Ybulkcivs
open Go.RowKit

set_option maxRecDepth 100000 in
set_option maxHeartbeats 2000000 in
theorem cut_any (ma : Option Addr) (ml mc : Nat) (ib io n ic : Nat) (sel : Nat → Int) (nm vl : Nat → ByteArray) (tt : Nat → Int) (w : World) (hn : n ≤ 1024) (hml : ml ≤ 1048576)
    (hit : ∀ i, i < n → w.cell? ⟨ib, io + i * 4, none⟩ = some (.int .u8 (sel i)) ∧ w.cell? ⟨ib, io + i * 4 + 1, none⟩ = some (.string (nm i)) ∧ w.cell? ⟨ib, io + i * 4 + 2, none⟩ = some (.string (vl i)) ∧ w.cell? ⟨ib, io + i * 4 + 3, none⟩ = some (.int .u16 (tt i)))
    (hlc : ml ≤ mc) (hmsg : ml = 0 ∨ ∃ mb mo, ma = some ⟨mb, mo, none⟩) (hcv : ∀ wx, Below w.heap.size w wx → ∀ l, l ≤ ml → ∃ s, (convert 22 9 (.slice ma l mc)).run Yba.prog wx = .ok (.string s) wx)
    (hb : ∀ i, i < n → (0 ≤ sel i ∧ sel i ≤ 255) ∧ 0 ≤ tt i ∧ tt i ≤ 65535) :
    Calls Yba.prog 4 #[.slice ma ml mc, .slice (some ⟨ib, io, none⟩) n ic] w fun e w' => e = .returned (.bool true) ∧ Below w.heap.size w w' := by
  obtain ⟨i0, hi, hz0, hz1, hz2⟩ := info_parts Yba.info42
  have hl1 : (n : Int) ≤ 1024 := by omega
  have hl2 : (ml : Int) ≤ 1048576 := by omega
  go_enter Yba.func4, Yba.ntmps4
  go_wp2
  go_loopw [5, 24] (fun v i wr => ∃ k : Nat, k ≤ n ∧ i = .int .i64 k ∧ wr.ownsRow w.heap.size 42 3 v k (linesCells sel nm vl tt ml k) ∧ Below w.heap.size w wr ∧ (k = 0 → v = .slice none 0 0)) (fun _ i _ => n - (intOf i).toNat)
  case atStart => exact ⟨0, Nat.zero_le _, rfl, World.ownsRow_nil _ _ _ _, Below.refl _ _, fun _ => rfl⟩
  case round =>
    obtain ⟨k, hk, rfl, hown, hnx, hnil⟩ := hrel
    by_cases hlt : k < n
    · obtain ⟨q0, q1, q2, q3⟩ := hit k hlt
      obtain ⟨⟨b0, b1⟩, b2, b3⟩ := hb k hlt
      replace q0 := cell_later hnx q0
      replace q1 := cell_later hnx q1
      replace q2 := cell_later hnx q2
      replace q3 := cell_later hnx q3
      have hlt' : (k : Int) < (n : Int) := by omega
      clear hit hb hcv hmsg
      have hself : some wr.heap.size ≠ u5.ownBlock := fun e => by have := (hown.lt _ e.symm).2; omega
      have hm1 : ¬ ((ml : Int) + 1 = 0) := by omega
      have hm3 : IntKind.i64.wrap (tt k) = tt k := by rw [IntKind.wrap_i64]; omega
      have hm2 : IntKind.i64.wrap ((ml : Int) + 1) = (ml : Int) + 1 := by rw [IntKind.wrap_i64]; omega
      go_wp2_with fail
      go_region_held3 (fun w' => w'.cell? ⟨wr.heap.size, 0, none⟩ = some (.int .u8 (sel k)) ∧ w'.cell? ⟨wr.heap.size, 1, none⟩ = some (.string (nm k)) ∧ w'.cell? ⟨wr.heap.size, 2, none⟩ = some (.string (vl k)) ∧ w'.cell? ⟨wr.heap.size, 3, none⟩ = some (.int .u16 (tt k)))
        (first
          | go_keep
          | (go_split_ands
             refine ⟨?_, ?_, ?_, ?_⟩
             · (rw [hgrow.cell_far _ (by simp; omega) hself]; assumption)
             · (rw [hgrow.cell_far _ (by simp; omega) hself]; assumption)
             · (rw [hgrow.cell_far _ (by simp; omega) hself]; assumption)
             · (rw [hgrow.cell_far _ (by simp; omega) hself]; assumption)))
        (first
          | (go_at_call 7; refine (name_any _ _ b0 b1 _).mono ?_; rintro e w' ⟨rfl, rfl⟩)
          | (refine step_append_lies _ (by rfl) _ _ _ (by rfl) w.heap.size 42 i0 _ 3 40 Yba.underlying36 hi hz0 hz1 hz2 rfl (by omega) u5 k (linesCells sel nm vl tt ml k) (by rfl) (((hown.alloc _).alloc _).drew)
              ⟨wr.heap.size + 1, 0, none⟩ 1 1 [.string (nameOf (sel k) (nm k)), .string (vl k), .int .i64 ((tt k).tmod ((ml : Int) + 1))] (by rfl) (by rfl) (World.news_of_block (cs := #[.string (nameOf (sel k) (nm k)), .string (vl k), .int .i64 ((tt k).tmod ((ml : Int) + 1))]) (t := 42) (fr := (0, 0)) (new2 wr _ _)) (by simp [Value.oneCell'])
              (by omega) (by unfold maxLen; omega) (by omega) (by have := hnx.size; simp; omega) (wr.heap.size + 1 + 1) (by simp) ?_; intro g cap w1 hown1 hgrow hat hlt2))
      have hown2 : w1.ownsRow w.heap.size 42 3 (.slice (some ⟨g, 0, none⟩) (k + 1) cap) (k + 1) (linesCells sel nm vl tt ml (k + 1)) := by rw [linesCells_succ]; exact hown1
      have hbel : Below w.heap.size w w1 := Below.grown ((((hnx.alloc hnx.size _).alloc (by have := hnx.size; simp; omega) _).drew)) hgrow (by have := hnx.size; simp; omega) (fun q hq => (hown.lt q hq).1)
      clear hown1 hgrow hat hlt2 hown hnx
      go_wp2
      go_roundw
      case rel => exact ⟨k + 1, by omega, by go_num, hown2, hbel, fun h => by omega⟩
      case measure => simp [intOf]; omega
    · obtain rfl : k = n := by omega
      clear hit hlt
      by_cases h0 : k = 0
      · subst h0
        have hv := hnil rfl
        rw [hv]
        clear hnil hown hv
        go_wp2_with fail
        refine (cut_short _ _ _ _ (by omega) _).mono ?_
        rintro e w' ⟨rfl, rfl⟩
        go_wp2_with fail
        refine wp_loop_rounds 1 ?_
        rw [rounds_succ]
        go_wp2
        go_ret
        exact ⟨rfl, hnx⟩
      obtain ⟨g, cap, hv, hnc, hg0, hg1⟩ := lines_form hown (by omega)
      rw [hv] at hown ⊢
      have hla := line_at hown
      clear hown hnil hv
      have hk1 : (0 : Int) < (k : Int) := by omega
      by_cases h2 : k < 2
      · have h2' : ¬ (2 : Int) ≤ (k : Int) := by omega
        go_wp2_with fail
        refine (cut_short _ _ _ _ h2 _).mono ?_
        rintro e w' ⟨rfl, rfl⟩
        go_wp2_with fail
        go_loopw [13] (fun i wx => ∃ j m : Nat, j ≤ k ∧ i = .int .i64 j ∧ wx = w'.drewN m) (fun i _ => k - (intOf i).toNat)
        case atStart => exact ⟨0, 0, Nat.zero_le _, rfl, rfl⟩
        case round =>
          obtain ⟨j, m, hj, rfl, rfl⟩ := hrel
          by_cases hlt : j < k
          · obtain ⟨f0, f1, f2⟩ := hla j hlt
            have hlt' : (j : Int) < (k : Int) := by omega
            clear hla
            go_wp2_with fail
            go_quiet (fail)
            go_wp2
            go_roundw
            case rel => exact ⟨j + 1, _, by omega, by go_num, rfl⟩
            case measure => simp [intOf]; omega
          · clear hla
            go_wp2
            go_ret
            exact ⟨rfl, below_drewN hnx _⟩

      obtain ⟨x0, x1, x2⟩ := hla (k - 2) (by omega)
      obtain ⟨y0, y1, y2⟩ := hla (k - 1) (by omega)
      have h2' : (2 : Int) ≤ (k : Int) := by omega
      obtain ⟨X, hX⟩ : ∃ X, X = nameOf (sel (k - 2)) (nm (k - 2)) := ⟨_, rfl⟩
      obtain ⟨Y, hY⟩ : ∃ Y, Y = nameOf (sel (k - 1)) (nm (k - 1)) := ⟨_, rfl⟩
      rw [← hX] at x0
      rw [← hY] at y0
      clear hX hY
      by_cases n1 : (X.toList == [83, 105, 103, 110, 97, 116, 117, 114, 101, 46, 83, 105, 103, 65, 108, 103]) = true
      rotate_left
      · have n1' : (X.toList == [83, 105, 103, 110, 97, 116, 117, 114, 101, 46, 83, 105, 103, 65, 108, 103]) = false := by simpa using n1
        clear n1
        go_wp2_with fail
        refine (cut_no1 _ _ _ _ (by omega) (by omega) X _ x0 n1').mono ?_
        rintro e w' ⟨rfl, rfl⟩
        go_wp2_with fail
        go_loopw [13] (fun i wx => ∃ j m : Nat, j ≤ k ∧ i = .int .i64 j ∧ wx = w'.drewN m) (fun i _ => k - (intOf i).toNat)
        case atStart => exact ⟨0, 0, Nat.zero_le _, rfl, rfl⟩
        case round =>
          obtain ⟨j, m, hj, rfl, rfl⟩ := hrel
          by_cases hlt : j < k
          · obtain ⟨f0, f1, f2⟩ := hla j hlt
            have hlt' : (j : Int) < (k : Int) := by omega
            clear hla
            go_wp2_with fail
            go_quiet (fail)
            go_wp2
            go_roundw
            case rel => exact ⟨j + 1, _, by omega, by go_num, rfl⟩
            case measure => simp [intOf]; omega
          · clear hla
            go_wp2
            go_ret
            exact ⟨rfl, below_drewN hnx _⟩

      by_cases n2 : (Y.toList == [83, 105, 103, 110, 97, 116, 117, 114, 101, 46, 83, 105, 103, 110, 97, 116, 117, 114, 101]) = true
      rotate_left
      · have n2' : (Y.toList == [83, 105, 103, 110, 97, 116, 117, 114, 101, 46, 83, 105, 103, 110, 97, 116, 117, 114, 101]) = false := by simpa using n2
        clear n2
        go_wp2_with fail
        refine (cut_no2 _ _ _ _ (by omega) (by omega) X Y _ x0 y0 n1 n2').mono ?_
        rintro e w' ⟨rfl, rfl⟩
        go_wp2_with fail
        go_loopw [13] (fun i wx => ∃ j m : Nat, j ≤ k ∧ i = .int .i64 j ∧ wx = w'.drewN m) (fun i _ => k - (intOf i).toNat)
        case atStart => exact ⟨0, 0, Nat.zero_le _, rfl, rfl⟩
        case round =>
          obtain ⟨j, m, hj, rfl, rfl⟩ := hrel
          by_cases hlt : j < k
          · obtain ⟨f0, f1, f2⟩ := hla j hlt
            have hlt' : (j : Int) < (k : Int) := by omega
            clear hla
            go_wp2_with fail
            go_quiet (fail)
            go_wp2
            go_roundw
            case rel => exact ⟨j + 1, _, by omega, by go_num, rfl⟩
            case measure => simp [intOf]; omega
          · clear hla
            go_wp2
            go_ret
            exact ⟨rfl, below_drewN hnx _⟩

      have htt := hb (k - 2) (by omega)
      obtain ⟨at1, hat⟩ : ∃ at1 : Nat, (tt (k - 2)).tmod ((ml : Int) + 1) = (at1 : Int) := ⟨((tt (k - 2)).tmod ((ml : Int) + 1)).toNat, by rw [Int.tmod_eq_emod_of_nonneg htt.2.1]; have := Int.emod_nonneg (tt (k - 2)) (show ((ml : Int) + 1) ≠ 0 by omega); omega⟩
      have hat2 : at1 ≤ ml := by
        rw [Int.tmod_eq_emod_of_nonneg htt.2.1] at hat
        have := Int.emod_lt_of_pos (tt (k - 2)) (show 0 < ((ml : Int) + 1) by omega); omega
      rw [hat] at x2
      have la2 : ∀ i, i < k → ∃ c0 c1 c2, wr.cell? ⟨g, i * 3, none⟩ = some (.string c0) ∧ wr.cell? ⟨g, i * 3 + 1, none⟩ = some (.string c1) ∧ wr.cell? ⟨g, i * 3 + 2, none⟩ = some (.int .i64 c2) := fun i hi => ⟨_, _, _, hla i hi⟩
      clear hla hat htt hb
      obtain ⟨V1, hV1⟩ : ∃ V, V = vl (k - 2) := ⟨_, rfl⟩
      obtain ⟨V2, hV2⟩ : ∃ V, V = vl (k - 1) := ⟨_, rfl⟩
      rw [← hV1] at x1
      rw [← hV2] at y1
      clear hV1 hV2 hi hz0 hz1 hz2
      go_wp2_with fail
      refine (cut_yes ma ml mc g k cap (by omega) (by omega) hnc X Y V1 V2 at1 wr x0 y0 n1 n2 x1 y1 x2 hat2 hlc).mono ?_
      rintro e w' ⟨rfl, hw'⟩
      obtain ⟨hB, q0, q1, q2, r0, r1, s0, s1, s2, hl3⟩ : Below wr.heap.size wr w' ∧ w'.cell? ⟨wr.heap.size, 0, none⟩ = some (.slice ma at1 mc) ∧ w'.cell? ⟨wr.heap.size, 1, none⟩ = some (.string V1) ∧ w'.cell? ⟨wr.heap.size, 2, none⟩ = some (.string V2) ∧
          w'.cell? ⟨g, (k - 2) * 3, none⟩ = some (.string X) ∧ w'.cell? ⟨g, (k - 1) * 3, none⟩ = some (.string Y) ∧ w'.cell? ⟨g, (k - 2) * 3 + 1, none⟩ = some (.string V1) ∧ w'.cell? ⟨g, (k - 1) * 3 + 1, none⟩ = some (.string V2) ∧ w'.cell? ⟨g, (k - 2) * 3 + 2, none⟩ = some (.int .i64 at1) ∧
          (∀ i, i < k → ∃ c0 c1 c2, w'.cell? ⟨g, i * 3, none⟩ = some (.string c0) ∧ w'.cell? ⟨g, i * 3 + 1, none⟩ = some (.string c1) ∧ w'.cell? ⟨g, i * 3 + 2, none⟩ = some (.int .i64 c2)) := by
        have hB : Below wr.heap.size wr w' := by rw [hw']; exact ((Below.refl _ _).alloc (Nat.le_refl _) _).drew
        have hrow : w'.heap[wr.heap.size]? = some (.cells #[.slice ma at1 mc, .string V1, .string V2] 47 (0, 0)) := by rw [hw']; exact heap_alloc_new wr _
        have hc := fun j => cell_of_row w' wr.heap.size j _ _ _ hrow
        refine ⟨hB, hc 0, hc 1, hc 2, cell_later hB x0, cell_later hB y0, cell_later hB x1, cell_later hB y1, cell_later hB x2, fun i hi => ?_⟩
        obtain ⟨c0, c1, c2, t0, t1, t2⟩ := la2 i hi
        exact ⟨c0, c1, c2, cell_later hB t0, cell_later hB t1, cell_later hB t2⟩
      have hbel : Below w.heap.size w w' := hnx.trans (hB.mono hnx.size)
      have hsz := hB.size
      clear hw' x0 y0 x1 y1 x2 la2
      go_wp2_with fail
      go_loopw [11] (fun i wx => ∃ j m : Nat, j ≤ k - 2 ∧ i = .int .i64 j ∧ wx = w'.drewN m) (fun i _ => k - 2 - (intOf i).toNat)
      case atStart => exact ⟨0, 0, Nat.zero_le _, rfl, rfl⟩
      case round =>
        obtain ⟨j, m, hj, rfl, rfl⟩ := hrel
        by_cases hlt : j < k - 2
        · obtain ⟨c0, c1, c2, f0, f1, f2⟩ := hl3 j (by omega)
          have hlt1 : (j : Int) < (k : Int) - 2 := by omega
          have hlt2 : (j : Int) < ((k - 2 : Nat) : Int) := by omega
          have hlt3 : (j : Int) < (k : Int) := by omega
          clear hl3 q0 q1 q2 r0 r1 s0 s1 s2
          go_wp2_with fail
          go_quiet (fail)
          go_wp2
          go_roundw
          case rel => exact ⟨j + 1, _, by omega, by go_num, rfl⟩
          case measure => simp [intOf]; omega
        · clear hl3
          have hlt1 : ¬ (j : Int) < (k : Int) - 2 := by omega
          go_wp2_with fail
          have hcc := fun n => hcv (w'.drewN n) (below_drewN hbel _) at1 hat2
          have HC : Hid (∀ n, ∃ s, (convert 22 9 (.slice ma at1 mc)).run Yba.prog (w'.drewN n) = .ok (.string s) (w'.drewN n)) := hcc
          clear hcc hcv
          have hma : Option.map (fun x => x.add 0) ma = ma := map_add_zero ma
          have h4 : (at1 : Int) ≤ (mc : Int) := by omega
          go_quiet ((go_at_call 9; refine (equal_same _ _ (HC.out _)).mono ?_; rintro e wq ⟨rfl, rfl⟩; exact ⟨rfl, _, rfl⟩))
          go_wp2_with fail
          have e1 : IntKind.i64.wrap ((k : Int) - 2) = (k : Int) - 2 := by rw [IntKind.wrap_i64]; omega
          have e2 : IntKind.i64.wrap ((k : Int) - 1) = (k : Int) - 1 := by rw [IntKind.wrap_i64]; omega
          have e4 : (1 : Int) ≤ (k : Int) := by omega
          have e5 : (k : Int) - 2 < (k : Int) := by omega
          have e6 : (k : Int) - 1 < (k : Int) := by omega
          have e7 : ((k : Int) - 2).toNat = k - 2 := by omega
          have e8 : ((k : Int) - 1).toNat = k - 1 := by omega
          clear HC
          by_cases hz : at1 = 0
          · have hd : decide ((0 : Int) < (at1 : Int)) = false := decide_eq_false (by omega)
            go_quiet (fail)
            go_wp2_with fail
            clear hd
            go_quiet (fail)
            go_wp2
            go_ret
            exact ⟨rfl, below_drewN (below_drewN (below_drewN (below_drewN hbel _) _) _) _⟩
          · rcases hmsg with h | ⟨mb, mo, rfl⟩
            · omega
            have hd : 0 < at1 := by omega
            have hd0 : 0 < ml := by omega
            have hd1 : (0 : Int) < (at1 : Int) := by omega
            have hd2 : (0 : Int) < (ml : Int) := by omega
            have hpn := neq_same_ptr
            go_quiet (fail)
            go_wp2_with fail
            go_quiet (fail)
            go_wp2
            go_ret
            exact ⟨rfl, below_drewN (below_drewN (below_drewN (below_drewN hbel _) _) _) _⟩
end Go.Proofs.Ybulkcivs
