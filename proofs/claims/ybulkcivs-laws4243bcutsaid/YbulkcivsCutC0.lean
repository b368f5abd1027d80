import Derived.Test.YbulkcivsCutB
import Derived.Deep.AppendLies
namespace Go.Proofs.Ybulkcivs
open Go.RowKit

theorem Yba.info42 : (Yba.prog.info? 42).map (fun i => (i.zero, i.size, i.bytes)) = some (some (.agg #[.string ByteArray.empty, .string ByteArray.empty, .int .i64 0]), 3, 40) := by kernel_rfl

/-- The cells of one line. -/
def lineCells (sel : Nat → Int) (nm vl : Nat → ByteArray) (tt : Nat → Int) (ml : Nat) (i : Nat) : List Value :=
  [.string (nameOf (sel i) (nm i)), .string (vl i), .int .i64 ((tt i).tmod ((ml : Int) + 1))]
/-- The cells of the first k lines. -/
def linesCells (sel : Nat → Int) (nm vl : Nat → ByteArray) (tt : Nat → Int) (ml : Nat) (k : Nat) : List Value :=
  (List.range k).flatMap (lineCells sel nm vl tt ml)
theorem linesCells_succ (sel : Nat → Int) (nm vl : Nat → ByteArray) (tt : Nat → Int) (ml : Nat) (k : Nat) :
    linesCells sel nm vl tt ml (k + 1) = linesCells sel nm vl tt ml k ++ [.string (nameOf (sel k) (nm k)), .string (vl k), .int .i64 ((tt k).tmod ((ml : Int) + 1))] := by
  simp [linesCells, List.range_succ, lineCells]
theorem linesCells_length (sel : Nat → Int) (nm vl : Nat → ByteArray) (tt : Nat → Int) (ml : Nat) (k : Nat) : (linesCells sel nm vl tt ml k).length = k * 3 := by
  induction k with
  | zero => rfl
  | succ k ih => rw [linesCells_succ]; simp [ih]; omega

theorem new2 (wr : World) (o1 o2 : Obj) : ((wr.alloc o1).alloc o2).drew.heap[wr.heap.size + 1]? = some o2 := by
  have h := heap_alloc_new (wr.alloc o1) o2
  have e : (wr.alloc o1).heap.size = wr.heap.size + 1 := by simp
  rw [e] at h
  exact h

theorem linesCells_get (sel : Nat → Int) (nm vl : Nat → ByteArray) (tt : Nat → Int) (ml : Nat) : ∀ (n i : Nat), i < n →
    (linesCells sel nm vl tt ml n)[i * 3]? = some (.string (nameOf (sel i) (nm i))) ∧ (linesCells sel nm vl tt ml n)[i * 3 + 1]? = some (.string (vl i)) ∧ (linesCells sel nm vl tt ml n)[i * 3 + 2]? = some (.int .i64 ((tt i).tmod ((ml : Int) + 1)))
  | 0, i, h => absurd h (Nat.not_lt_zero _)
  | n + 1, i, h => by
    have hl := linesCells_length sel nm vl tt ml n
    rw [linesCells_succ]
    by_cases hi : i < n
    · have ih := linesCells_get sel nm vl tt ml n i hi
      rw [List.getElem?_append_left (by omega), List.getElem?_append_left (by omega), List.getElem?_append_left (by omega)]
      exact ih
    · obtain rfl : i = n := by omega
      rw [List.getElem?_append_right (by omega), List.getElem?_append_right (by omega), List.getElem?_append_right (by omega)]
      simp [hl, show i * 3 + 1 - i * 3 = 1 by omega, show i * 3 + 2 - i * 3 = 2 by omega]

/-- What an owned row of lines holds, by cells. -/
theorem line_at {wr : World} {base g n cap : Nat} {sel : Nat → Int} {nm vl : Nat → ByteArray} {tt : Nat → Int} {ml : Nat} (h : wr.ownsRow base 42 3 (.slice (some ⟨g, 0, none⟩) n cap) n (linesCells sel nm vl tt ml n)) :
    ∀ i, i < n → wr.cell? ⟨g, i * 3, none⟩ = some (.string (nameOf (sel i) (nm i))) ∧ wr.cell? ⟨g, i * 3 + 1, none⟩ = some (.string (vl i)) ∧ wr.cell? ⟨g, i * 3 + 2, none⟩ = some (.int .i64 ((tt i).tmod ((ml : Int) + 1))) := by
  intro i hi
  have hc := h.cells (g := g) rfl
  obtain ⟨h0, h1, h2⟩ := linesCells_get sel nm vl tt ml n i hi
  have e : ∀ j, (⟨g, 0, none⟩ : Addr).add j = ⟨g, j, none⟩ := fun j => by rw [Addr.add_lit, Nat.zero_add]
  exact ⟨by rw [← e]; exact hc _ _ h0, by rw [← e]; exact hc _ _ h1, by rw [← e]; exact hc _ _ h2⟩

/-- The value behind the loop, written out. -/
theorem lines_form {wr : World} {base n : Nat} {v : Value} {xs : List Value} (h : wr.ownsRow base 42 3 v n xs) (hn : 0 < n) : ∃ g cap, v = .slice (some ⟨g, 0, none⟩) n cap ∧ n ≤ cap ∧ base ≤ g ∧ g < wr.heap.size := by
  rcases h.2 with ⟨_, h0⟩ | ⟨g, cap, cur, hv, hb, hg, hc, _⟩
  · omega
  · exact ⟨g, cap, hv, hc, hb, (Array.getElem?_eq_some_iff.1 hg).1⟩

set_option maxHeartbeats 400000 in
/-- 'bytes.Equal(x, x)'. -/
theorem equal_same (v : Value) (w : World) (h : ∃ s, (convert 22 9 v).run Yba.prog w = .ok (.string s) w) :
    Calls Yba.prog 9 #[v, v] w fun e w' => e = .returned (.bool true) ∧ w' = w := by
  obtain ⟨s, hs⟩ := h
  go_enter Yba.func9, Yba.ntmps9
  go_wp2
  go_ret
  exact ⟨rfl, rfl⟩

theorem equalIn_same_ptr (d : Nat) (a : Addr) (w : World) : (Op.equalIn (d + 1) 49 (.pointer (some a)) (.pointer (some a))).run Yba.prog w = .ok true w := by
  simp [Op.equalIn, run_underlying Yba.underlying49, sameAddr]
/-- '&x != &x' on a byte. -/
theorem neq_same_ptr (a : Addr) (w : World) : (binOp .neq 49 (.pointer (some a)) (.pointer (some a))).run Yba.prog w = .ok (.bool false) w := by
  simp only [binOp]
  simp [Op.equal, Op.maxDepth, equalIn_same_ptr 9999 a w]
end Go.Proofs.Ybulkcivs
