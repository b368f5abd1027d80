import Derived.Test.YbulkcivsEchoB
namespace Go.Proofs.Ybulkcivs
open Go.RowKit

theorem bytes_at {w : World} {b off len : Nat} {zs : List Int} (hlc : len ≤ zs.length) (hcell : ∀ i, i < zs.length → w.cell? ⟨b, off + i, none⟩ = some (.int .u8 (zs.getD i 0))) :
    ∀ j v, ((zs.take len).map (Value.int .u8))[j]? = some v → w.cell? ((⟨b, off, none⟩ : Addr).add j) = some v := by
  intro j v hj
  have hj' : j < len := by
    have := (List.getElem?_eq_some_iff.1 hj).1
    simp at this; omega
  rw [Addr.add_lit, hcell j (by omega), ← hj]
  simp [hj', show j < zs.length by omega]

/-- The cells of 'l' as the law lays it. -/
def licRow (cp : Value) (tr : ByteArray) (ts : Value) (cost : Int) : Array Value :=
  #[cp, .string tr, ts, .int .i64 cost, .string { data := #[] }, .slice none 0 0, .slice none 0 0, .slice none 0 0, .pointer none]

theorem lic_world {w w1 W0 : World} {len : Nat} {zs : List Int} {cs : List Value} {cp ts : Value} {tr : ByteArray} {cost : Int} {B1 : Nat} (hB1 : w1.heap.size = B1)
    (hnew : ∀ j, j < len → (w.alloc (.cells cs.toArray 5)).cell? ⟨w.heap.size, j, none⟩ = some (.int .u8 (zs.getD j 0)))
    (hb1 : Below (w.heap.size + 1) (w.alloc (.cells cs.toArray 5)) w1)
    (hW : W0 = (w1.alloc (Obj.cells (licRow cp tr ts cost) 28)).alloc (Obj.cells (licRow cp tr ts cost) 28)) :
    Below w.heap.size w W0 ∧ w.heap.size < W0.heap.size ∧ (∀ j, j < len → W0.cell? ⟨w.heap.size, j, none⟩ = some (.int .u8 (zs.getD j 0))) ∧
    W0.cell? ⟨B1, 0, none⟩ = some cp ∧ W0.cell? ⟨B1, 1, none⟩ = some (.string tr) ∧ W0.cell? ⟨B1, 2, none⟩ = some ts ∧
    W0.cell? ⟨B1, 3, none⟩ = some (.int .i64 cost) ∧ W0.cell? ⟨B1, 4, none⟩ = some (.string { data := #[] }) ∧ W0.cell? ⟨B1, 5, none⟩ = some (.slice none 0 0) ∧
    W0.cell? ⟨B1, 6, none⟩ = some (.slice none 0 0) ∧ W0.cell? ⟨B1, 7, none⟩ = some (.slice none 0 0) ∧ W0.cell? ⟨B1, 8, none⟩ = some (.pointer none) := by
  subst hB1
  have hsz : w.heap.size + 1 ≤ w1.heap.size := by have := hb1.size; simpa using this
  have hb2 : Below (w.heap.size + 1) (w.alloc (.cells cs.toArray 5)) W0 := by
    rw [hW]; exact (hb1.alloc hsz _).alloc (by simp; omega) _
  have hrow : W0.heap[w1.heap.size]? = some (.cells (licRow cp tr ts cost) 28 (0, 0)) := by
    rw [hW, Below.heap_alloc _ _ _ (by simp)]; exact heap_alloc_new w1 _
  have hc := fun j => cell_of_row W0 w1.heap.size j _ _ _ hrow
  refine ⟨((Below.refl w.heap.size w).alloc (Nat.le_refl _) _).trans (hb2.mono (by omega)), by have := hb2.size; simp at this; omega, fun j hj => ?_, hc 0, hc 1, hc 2, hc 3, hc 4, hc 5, hc 6, hc 7, hc 8⟩
  rw [hb2.cell (p := ⟨w.heap.size, j, none⟩) (by simp)]
  exact hnew j hj

set_option maxHeartbeats 1000000 in
theorem echo_some_nil (b off len cap : Nat) (zs : List Int) (cost : Int) (tr : ByteArray) (w : World) (hl : len ≤ 4096) (hlc : len ≤ zs.length)
    (hcell : ∀ i, i < zs.length → w.cell? ⟨b, off + i, none⟩ = some (.int .u8 (zs.getD i 0))) :
    Calls Yba.prog 3 #[.slice (some ⟨b, off, none⟩) len cap, .int .i64 cost, .string tr, .slice none 0 0] w fun e w' => e = .returned (.bool true) ∧ Below w.heap.size w w' := by
  have hn := fun w a n c => Lib.run_eql_slice_nil (P := Yba.prog) w 22 5 a n c 0 0 Yba.underlying22
  have hn2 := fun w a n c => run_neq_slice_nil_any (P := Yba.prog) w 22 5 a n c 0 0 Yba.underlying22
  have hn3 := fun w a n c => run_neq_slice_nil_any (P := Yba.prog) w 23 9 a n c 0 0 Yba.underlying23
  have hmk := make_bytes len hl
  obtain ⟨cs, hcs⟩ : ∃ cs, cs = (zs.take len).map (Value.int .u8) := ⟨_, rfl⟩
  have hlen : cs.length = len := by rw [hcs]; simp; omega
  have hcp := fun ty => copy_new 22 5 Yba.underlying22 (by kernel_rfl) (.int .u8 0) len cap ⟨b, off, none⟩ cs hlen w (by rw [hcs]; exact bytes_at hlc hcell) (by rw [hcs]; exact ints_oneCell _ _) ty
  have hnew : ∀ j, j < len → (w.alloc (.cells cs.toArray 5)).cell? ⟨w.heap.size, j, none⟩ = some (.int .u8 (zs.getD j 0)) := by
    intro j hj
    rw [cell_of_row _ _ _ _ _ _ (heap_alloc_new w _), hcs]
    simp [hj, show j < zs.length by omega]
  clear hcs hlen
  go_enter Yba.func3, Yba.ntmps3
  go_wp2_with fail
  refine (marshal_some _ _ _ _ _ _ _ _ _ _ _ _).mono ?_
  rintro e w' ⟨rfl, rfl⟩
  go_wp2_with fail
  obtain ⟨W0, hW⟩ : ∃ W0, W0 = ((w.alloc (Obj.cells cs.toArray 5)).alloc (Obj.cells (licRow (.slice (some ⟨w.heap.size, 0, none⟩) len len) tr (.slice none 0 0) cost) 28)).alloc (Obj.cells (licRow (.slice (some ⟨w.heap.size, 0, none⟩) len len) tr (.slice none 0 0) cost) 28) := ⟨_, rfl⟩
  have hW2 := hW
  unfold licRow at hW2
  rw [← hW2]
  obtain ⟨hb, hz, c0, d0, d1, d2, d3, d4, d5, d6, d7, d8⟩ := lic_world (B1 := w.heap.size + 1) (by simp) hnew (Below.refl _ _) hW
  have cx : ∀ j, j < len → W0.cell? ⟨b, off + j, none⟩ = some (.int .u8 (zs.getD j 0)) := fun j hj => cell_later hb (hcell j (by omega))
  clear hW hW2 hnew hcp hmk hcell
  go_loopw [14] (fun i wr => ∃ k m : Nat, k ≤ len ∧ i = .int .i64 k ∧ wr = W0.drewN m) (fun i _ => len - (intOf i).toNat)
  case atStart => exact ⟨0, 0, Nat.zero_le _, rfl, rfl⟩
  case round =>
    obtain ⟨k, m, hk, rfl, rfl⟩ := hrel
    by_cases hlt : k < len
    · have g0 := c0 k hlt
      have g1 := cx k hlt
      have hlt' : (k : Int) < (len : Int) := by omega
      clear c0 cx d0 d1 d2 d3 d4 d5 d6 d7 d8
      go_wp2_with fail
      go_quiet (fail)
      go_wp2
      go_roundw
      case rel => exact ⟨k + 1, _, by omega, by go_num, rfl⟩
      case measure => simp [intOf]; omega
    · clear c0 cx
      go_wp2_with fail
      refine (isZero_some _ _ _ _ _ _ _ _ _ _ _ _).mono ?_
      rintro e w' ⟨rfl, rfl⟩
      go_wp2
      go_ret
      exact ⟨rfl, (below_drewN hb _).alloc (by simp; omega) _⟩
end Go.Proofs.Ybulkcivs
