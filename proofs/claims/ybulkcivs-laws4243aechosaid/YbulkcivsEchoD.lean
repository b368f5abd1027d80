import Derived.Test.YbulkcivsEchoC
namespace Go.Proofs.Ybulkcivs
open Go.RowKit

theorem strs_at {w : World} {y : Addr} {n : Nat} {ss : List ByteArray} (hlc : n ≤ ss.length) (hcell : ∀ i, i < ss.length → w.cell? (y.add i) = some (.string (ss.getD i ByteArray.empty))) :
    ∀ j v, ((ss.take n).map Value.string)[j]? = some v → w.cell? (y.add j) = some v := by
  intro j v hj
  have hj' : j < n := by
    have := (List.getElem?_eq_some_iff.1 hj).1
    simp at this; omega
  rw [hcell j (by omega), ← hj]
  simp [hj', show j < ss.length by omega]

theorem strs_oneCell (ss : List ByteArray) : ∀ u ∈ ss.map Value.string, u.oneCell' = true := by
  intro u hu
  obtain ⟨_, _, rfl⟩ := List.mem_map.1 hu
  rfl

set_option maxHeartbeats 1000000 in
theorem echo_some_some (b off len cap : Nat) (zs : List Int) (cost : Int) (tr : ByteArray) (y : Addr) (n tc : Nat) (ss : List ByteArray) (w : World) (hl : len ≤ 4096) (hlc : len ≤ zs.length)
    (hcell : ∀ i, i < zs.length → w.cell? ⟨b, off + i, none⟩ = some (.int .u8 (zs.getD i 0)))
    (hn1 : n ≤ 4096) (hnc : n ≤ ss.length) (hscell : ∀ i, i < ss.length → w.cell? (y.add i) = some (.string (ss.getD i ByteArray.empty))) :
    Calls Yba.prog 3 #[.slice (some ⟨b, off, none⟩) len cap, .int .i64 cost, .string tr, .slice (some y) n tc] w fun e w' => e = .returned (.bool true) ∧ Below w.heap.size w w' := by
  have hn := fun w a n c => Lib.run_eql_slice_nil (P := Yba.prog) w 22 5 a n c 0 0 Yba.underlying22
  have hn2 := fun w a n c => run_neq_slice_nil_any (P := Yba.prog) w 22 5 a n c 0 0 Yba.underlying22
  have hn3 := fun w a n c => run_neq_slice_nil_any (P := Yba.prog) w 23 9 a n c 0 0 Yba.underlying23
  have hmk := make_bytes len hl
  obtain ⟨cs, hcs⟩ : ∃ cs, cs = (zs.take len).map (Value.int .u8) := ⟨_, rfl⟩
  have hlen : cs.length = len := by rw [hcs]; simp; omega
  have hcp := fun ty => copy_new 22 5 Yba.underlying22 (by kernel_rfl) (.int .u8 0) len cap ⟨b, off, none⟩ cs hlen w (by rw [hcs]; exact bytes_at hlc hcell) (by rw [hcs]; exact ints_oneCell _ _) ty
  have hnew : ∀ j, j < len → (w.alloc (.cells cs.toArray 5)).cell? ⟨w.heap.size, j, none⟩ = some (.int .u8 (zs.getD j 0)) := by
    intro j hj
    rw [cell_of_row _ _ _ _ _ _ (heap_alloc_new w _), hcs]
    simp [hj, show j < zs.length by omega]
  clear hcs hlen
  have hmk2 := make_strings n hn1
  obtain ⟨cs2, hcs2⟩ : ∃ cs, cs = (ss.take n).map Value.string := ⟨_, rfl⟩
  have hlen2 : cs2.length = n := by rw [hcs2]; simp; omega
  have hcp2 := fun ty => copy_new 23 9 Yba.underlying23 (by kernel_rfl) (.string ByteArray.empty) n tc y cs2 hlen2 (w.alloc (.cells cs.toArray 5)) (by rw [hcs2]; exact strs_at hnc fun i hi => cell_later ((Below.refl _ w).alloc (Nat.le_refl _) _) (hscell i hi)) (by rw [hcs2]; exact strs_oneCell _) ty
  have hs1 : (w.alloc (.cells cs.toArray 5)).heap.size = w.heap.size + 1 := by simp
  rw [hs1] at hcp2
  clear hcs2 hlen2 hs1 hscell hnc
  go_enter Yba.func3, Yba.ntmps3
  go_wp2_with fail
  refine (marshal_some _ _ _ _ _ _ _ _ _ _ _ _).mono ?_
  rintro e w' ⟨rfl, rfl⟩
  go_wp2_with fail
  obtain ⟨W0, hW⟩ : ∃ W0, W0 = (((w.alloc (Obj.cells cs.toArray 5)).alloc (Obj.cells cs2.toArray 9)).alloc (Obj.cells (licRow (.slice (some ⟨w.heap.size, 0, none⟩) len len) tr (.slice (some ⟨w.heap.size + 1, 0, none⟩) n n) cost) 28)).alloc (Obj.cells (licRow (.slice (some ⟨w.heap.size, 0, none⟩) len len) tr (.slice (some ⟨w.heap.size + 1, 0, none⟩) n n) cost) 28) := ⟨_, rfl⟩
  have hW2 := hW
  unfold licRow at hW2
  rw [← hW2]
  obtain ⟨hb, hz, c0, d0, d1, d2, d3, d4, d5, d6, d7, d8⟩ := lic_world (B1 := w.heap.size + 1 + 1) (by simp) hnew ((Below.refl _ _).alloc (by simp) _) hW
  have cx : ∀ j, j < len → W0.cell? ⟨b, off + j, none⟩ = some (.int .u8 (zs.getD j 0)) := fun j hj => cell_later hb (hcell j (by omega))
  clear hW hW2 hnew hcp hmk hcell hmk2 hcp2
  go_loopw [14] (fun i wr => ∃ k m : Nat, k ≤ len ∧ i = .int .i64 k ∧ wr = W0.drewN m) (fun i _ => len - (intOf i).toNat)
  case atStart => exact ⟨0, 0, Nat.zero_le _, rfl, rfl⟩
  case round =>
    obtain ⟨k, m, hk, rfl, rfl⟩ := hrel
    by_cases hlt : k < len
    · have g0 := c0 k hlt
      have g1 := cx k hlt
      have hlt' : (k : Int) < (len : Int) := by omega
      clear c0 cx d0 d1 d2 d3 d4 d5 d6 d7 d8
      go_wp2_with fail
      go_quiet (fail)
      go_wp2
      go_roundw
      case rel => exact ⟨k + 1, _, by omega, by go_num, rfl⟩
      case measure => simp [intOf]; omega
    · clear c0 cx
      go_wp2_with fail
      refine (isZero_some _ _ _ _ _ _ _ _ _ _ _ _).mono ?_
      rintro e w' ⟨rfl, rfl⟩
      go_wp2
      go_ret
      exact ⟨rfl, (below_drewN hb _).alloc (by simp; omega) _⟩

set_option maxHeartbeats 1000000 in
theorem echo_zero_nil (x : Addr) (cap : Nat) (cost : Int) (tr : ByteArray) (w : World)  :
    Calls Yba.prog 3 #[.slice (some x) 0 cap, .int .i64 cost, .string tr, .slice none 0 0] w fun e w' => e = .returned (.bool true) ∧ Below w.heap.size w w' := by
  have hn := fun w a n c => Lib.run_eql_slice_nil (P := Yba.prog) w 22 5 a n c 0 0 Yba.underlying22
  have hn2 := fun w a n c => run_neq_slice_nil_any (P := Yba.prog) w 22 5 a n c 0 0 Yba.underlying22
  have hn3 := fun w a n c => run_neq_slice_nil_any (P := Yba.prog) w 23 9 a n c 0 0 Yba.underlying23
  have hmk := make_bytes 0 (by omega)
  obtain ⟨cs, hcs⟩ : ∃ cs : List Value, cs = [] := ⟨_, rfl⟩
  have hlen : cs.length = 0 := by rw [hcs]; rfl
  have hcp := fun ty => copy_new 22 5 Yba.underlying22 (by kernel_rfl) (.int .u8 0) 0 cap x cs hlen w (by rw [hcs]; simp) (by rw [hcs]; simp) ty
  have hnew : ∀ j, j < 0 → (w.alloc (.cells cs.toArray 5)).cell? ⟨w.heap.size, j, none⟩ = some (.int .u8 (([] : List Int).getD j 0)) := fun j hj => by omega
  clear hcs hlen
  simp only [Int.natCast_zero] at hmk
  go_enter Yba.func3, Yba.ntmps3
  go_wp2_with fail
  refine (marshal_some _ _ _ _ _ _ _ _ _ _ _ _).mono ?_
  rintro e w' ⟨rfl, rfl⟩
  go_wp2_with fail
  obtain ⟨W0, hW⟩ : ∃ W0, W0 = ((w.alloc (Obj.cells cs.toArray 5)).alloc (Obj.cells (licRow (.slice (some ⟨w.heap.size, 0, none⟩) 0 0) tr (.slice none 0 0) cost) 28)).alloc (Obj.cells (licRow (.slice (some ⟨w.heap.size, 0, none⟩) 0 0) tr (.slice none 0 0) cost) 28) := ⟨_, rfl⟩
  have hW2 := hW
  unfold licRow at hW2
  rw [← hW2]
  obtain ⟨hb, hz, c0, d0, d1, d2, d3, d4, d5, d6, d7, d8⟩ := lic_world (B1 := w.heap.size + 1) (by simp) hnew (Below.refl _ _) hW
  clear hW hW2 hnew hcp hmk
  go_loopw [14] (fun i wr => ∃ k m : Nat, k ≤ 0 ∧ i = .int .i64 k ∧ wr = W0.drewN m) (fun i _ => 0 - (intOf i).toNat)
  case atStart => exact ⟨0, 0, Nat.zero_le _, rfl, rfl⟩
  case round =>
    obtain ⟨k, m, hk, rfl, rfl⟩ := hrel
    · clear c0
      go_wp2_with fail
      refine (isZero_some _ _ _ _ _ _ _ _ _ _ _ _).mono ?_
      rintro e w' ⟨rfl, rfl⟩
      go_wp2
      go_ret
      exact ⟨rfl, (below_drewN hb _).alloc (by simp; omega) _⟩

set_option maxHeartbeats 1000000 in
theorem echo_zero_some (x : Addr) (cap : Nat) (cost : Int) (tr : ByteArray) (y : Addr) (n tc : Nat) (ss : List ByteArray) (w : World) 
    (hn1 : n ≤ 4096) (hnc : n ≤ ss.length) (hscell : ∀ i, i < ss.length → w.cell? (y.add i) = some (.string (ss.getD i ByteArray.empty))) :
    Calls Yba.prog 3 #[.slice (some x) 0 cap, .int .i64 cost, .string tr, .slice (some y) n tc] w fun e w' => e = .returned (.bool true) ∧ Below w.heap.size w w' := by
  have hn := fun w a n c => Lib.run_eql_slice_nil (P := Yba.prog) w 22 5 a n c 0 0 Yba.underlying22
  have hn2 := fun w a n c => run_neq_slice_nil_any (P := Yba.prog) w 22 5 a n c 0 0 Yba.underlying22
  have hn3 := fun w a n c => run_neq_slice_nil_any (P := Yba.prog) w 23 9 a n c 0 0 Yba.underlying23
  have hmk := make_bytes 0 (by omega)
  obtain ⟨cs, hcs⟩ : ∃ cs : List Value, cs = [] := ⟨_, rfl⟩
  have hlen : cs.length = 0 := by rw [hcs]; rfl
  have hcp := fun ty => copy_new 22 5 Yba.underlying22 (by kernel_rfl) (.int .u8 0) 0 cap x cs hlen w (by rw [hcs]; simp) (by rw [hcs]; simp) ty
  have hnew : ∀ j, j < 0 → (w.alloc (.cells cs.toArray 5)).cell? ⟨w.heap.size, j, none⟩ = some (.int .u8 (([] : List Int).getD j 0)) := fun j hj => by omega
  clear hcs hlen
  simp only [Int.natCast_zero] at hmk
  have hmk2 := make_strings n hn1
  obtain ⟨cs2, hcs2⟩ : ∃ cs, cs = (ss.take n).map Value.string := ⟨_, rfl⟩
  have hlen2 : cs2.length = n := by rw [hcs2]; simp; omega
  have hcp2 := fun ty => copy_new 23 9 Yba.underlying23 (by kernel_rfl) (.string ByteArray.empty) n tc y cs2 hlen2 (w.alloc (.cells cs.toArray 5)) (by rw [hcs2]; exact strs_at hnc fun i hi => cell_later ((Below.refl _ w).alloc (Nat.le_refl _) _) (hscell i hi)) (by rw [hcs2]; exact strs_oneCell _) ty
  have hs1 : (w.alloc (.cells cs.toArray 5)).heap.size = w.heap.size + 1 := by simp
  rw [hs1] at hcp2
  clear hcs2 hlen2 hs1 hscell hnc
  go_enter Yba.func3, Yba.ntmps3
  go_wp2_with fail
  refine (marshal_some _ _ _ _ _ _ _ _ _ _ _ _).mono ?_
  rintro e w' ⟨rfl, rfl⟩
  go_wp2_with fail
  obtain ⟨W0, hW⟩ : ∃ W0, W0 = (((w.alloc (Obj.cells cs.toArray 5)).alloc (Obj.cells cs2.toArray 9)).alloc (Obj.cells (licRow (.slice (some ⟨w.heap.size, 0, none⟩) 0 0) tr (.slice (some ⟨w.heap.size + 1, 0, none⟩) n n) cost) 28)).alloc (Obj.cells (licRow (.slice (some ⟨w.heap.size, 0, none⟩) 0 0) tr (.slice (some ⟨w.heap.size + 1, 0, none⟩) n n) cost) 28) := ⟨_, rfl⟩
  have hW2 := hW
  unfold licRow at hW2
  rw [← hW2]
  obtain ⟨hb, hz, c0, d0, d1, d2, d3, d4, d5, d6, d7, d8⟩ := lic_world (B1 := w.heap.size + 1 + 1) (by simp) hnew ((Below.refl _ _).alloc (by simp) _) hW
  clear hW hW2 hnew hcp hmk hmk2 hcp2
  go_loopw [14] (fun i wr => ∃ k m : Nat, k ≤ 0 ∧ i = .int .i64 k ∧ wr = W0.drewN m) (fun i _ => 0 - (intOf i).toNat)
  case atStart => exact ⟨0, 0, Nat.zero_le _, rfl, rfl⟩
  case round =>
    obtain ⟨k, m, hk, rfl, rfl⟩ := hrel
    · clear c0
      go_wp2_with fail
      refine (isZero_some _ _ _ _ _ _ _ _ _ _ _ _).mono ?_
      rintro e w' ⟨rfl, rfl⟩
      go_wp2
      go_ret
      exact ⟨rfl, (below_drewN hb _).alloc (by simp; omega) _⟩

end Go.Proofs.Ybulkcivs
