import Derived.Test.YbulkcivsEchoA
import Derived.Deep.QuietTactic
import Derived.BigQuiet
namespace Go.Proofs.Ybulkcivs
open Go.RowKit

theorem Yba.info5 : (Yba.prog.info? 5).map (fun i => (i.zero, i.size, i.bytes)) = some (some (.int .u8 0), 1, 1) := by kernel_rfl
theorem Yba.info9 : (Yba.prog.info? 9).map (fun i => (i.zero, i.size, i.bytes)) = some (some (.string ByteArray.empty), 1, 16) := by kernel_rfl

/-- The cells of a row just made (a name of its own, so that the walk leaves it standing). -/
def madeRow (z : Value) (n : Nat) : Array Value := madeCells z.cells n
/-- 'make([]byte, n)'. -/
theorem make_bytes (n : Nat) (hn : n ≤ 4096) (w : World) :
    (Instr.makeSlice 22 (.int .i64 n) (.int .i64 n)).run Yba.prog w = .ok (.slice (some ⟨w.heap.size, 0, none⟩) n n) (w.alloc (.cells (madeRow (.int .u8 0) n) 5)) := by
  obtain ⟨i, hi, hz0, hz1, hz2⟩ := info_parts Yba.info5
  have := run_make (P := Yba.prog) w 22 5 i (.int .u8 0) Yba.underlying22 hi hz0 .i64 .i64 n n (by omega) (by omega) (by rw [hz2]; omega) (by omega)
  simpa [hz1, madeRow] using this
theorem make_strings (n : Nat) (hn : n ≤ 4096) (w : World) :
    (Instr.makeSlice 23 (.int .i64 n) (.int .i64 n)).run Yba.prog w = .ok (.slice (some ⟨w.heap.size, 0, none⟩) n n) (w.alloc (.cells (madeRow (.string ByteArray.empty) n) 9)) := by
  obtain ⟨i, hi, hz0, hz1, hz2⟩ := info_parts Yba.info9
  have := run_make (P := Yba.prog) w 23 9 i (.string ByteArray.empty) Yba.underlying23 hi hz0 .i64 .i64 n n (by omega) (by omega) (by rw [hz2]; omega) (by omega)
  simpa [hz1, madeRow] using this

theorem setRow_alloc (w : World) (x y : Array Value) (t : TypeId) : (w.alloc (.cells x t)).setRow w.heap.size y = w.alloc (.cells y t) := by
  have h : (w.alloc (.cells x t)).heap = w.heap.push (.cells x t) := rfl
  unfold World.setRow
  show ({ (w.alloc (.cells x t)) with heap := _ } : World) = _
  rw [h]
  show World.mk _ _ _ _ _ = World.mk _ _ _ _ _
  congr 1
  apply Array.ext
  · simp
  · intro k h1 h2
    simp only [Array.getElem_modify]
    split
    · rename_i hk; subst hk; simp
    · rename_i hk
      have : k < w.heap.size := by simp at h2; omega
      simp [Array.getElem_push, this]

/-- 'copy(cp, pub)' into the row just made. -/
theorem copy_new (t e : TypeId) (hu : Yba.prog.underlying t = some (.slice e)) (hs : (Yba.prog.info? e).map (·.size) = some 1) (z : Value) (n c : Nat) (a : Addr) (cs : List Value) (hcs : cs.length = n) (w : World)
    (hsrc : ∀ j v, cs[j]? = some v → w.cell? (a.add j) = some v) (h1 : ∀ v ∈ cs, v.oneCell' = true) (ty : TypeId) :
    (Builtin.copy_ #[t, t] ty #[.slice (some ⟨w.heap.size, 0, none⟩) n n, .slice (some a) n c]).run Yba.prog (w.alloc (.cells (madeRow z n) e)) =
      .ok (goInt n) (w.alloc (.cells cs.toArray e)) := by
  unfold madeRow
  have hsz : (madeCells z.cells n).size = n := size_madeCells _ _
  have := run_copy_row Yba.prog (w.alloc (.cells (madeCells z.cells n) e)) t t ty e w.heap.size 0 n n a n c (madeCells z.cells n) e cs hu hs (heap_alloc_new w _) (by simp [hcs]) (fun j v hj => by
    have hb := World.block_lt_of_cell? w _ (hsrc j v hj)
    rw [← hsrc j v hj]; exact World.cell?_of_block (Below.heap_alloc _ _ _ hb)) (by omega) h1
  rw [this, setRow_alloc, hcs]
  have e0 : (madeCells z.cells n).toList.drop (0 + n) = [] := List.drop_eq_nil_of_le (by simp [hsz])
  rw [e0]; simp
end Go.Proofs.Ybulkcivs
