import Derived.Test.YbulkcivsDoorDD
namespace Go.Proofs.YbulkcivsDoor
open Go.RowKit
set_option linter.unusedVariables false
set_option linter.unusedSimpArgs false

def upN (r : Nat) : Nat := if r < 3 then 4000 else if r < 8 then 1000 else if r < 16 then 384 else 128
def clsN (r : Nat) : Nat := if r < 3 then 0 else if r < 8 then 1 else if r < 16 then 2 else 3
def clsL : List Int := [4000, 3, 1000, 5, 384, 8, 128, 4]

theorem cup_any (i : Nat) (hi : i ≤ 100000) (w : World) : Calls Ybad.prog 6 #[.int .i64 i] w fun e w' => e = .returned (.int .i64 (upN (i % 20))) ∧ w' = w := by
  have h0 : ((i : Int).tmod 20) = ((i % 20 : Nat) : Int) := by rw [Int.tmod_eq_emod_of_nonneg (by omega)]; omega
  have hw : IntKind.i64.wrap ((i % 20 : Nat) : Int) = ((i % 20 : Nat) : Int) := by rw [IntKind.wrap_i64]; omega
  obtain ⟨r, hr⟩ : ∃ r, i % 20 = r := ⟨_, rfl⟩
  have hlt : r < 20 := by omega
  rw [hr] at h0 hw ⊢
  unfold upN
  by_cases h3 : r < 3
  · have h3' : (r : Int) < 3 := by omega
    go_enter Ybad.func6, Ybad.ntmps6
    go_wp2
    go_ret
    simp [h3]
  · have h3' : ¬ (r : Int) < 3 := by omega
    by_cases h8 : r < 8
    · have h8' : (r : Int) < 8 := by omega
      go_enter Ybad.func6, Ybad.ntmps6
      go_wp2
      go_ret
      simp [h3, h8]
    · have h8' : ¬ (r : Int) < 8 := by omega
      by_cases h16 : r < 16
      · have h16' : (r : Int) < 16 := by omega
        go_enter Ybad.func6, Ybad.ntmps6
        go_wp2
        go_ret
        simp [h3, h8, h16]
      · have h16' : ¬ (r : Int) < 16 := by omega
        go_enter Ybad.func6, Ybad.ntmps6
        go_wp2
        go_ret
        simp [h3, h8, h16]

/-- sim.classes as its text lays it. -/
structure Clss (w : World) (cb co cc : Nat) : Prop where
  head : w.cell? ⟨0, 0, none⟩ = some (.slice (some ⟨cb, co, none⟩) 4 cc)
  cells : ∀ i, i < 8 → w.cell? ⟨cb, co + i, none⟩ = some (.int .i64 (clsL.getD i 0))
theorem Clss.later {w W : World} {cb co cc : Nat} (h : Below w.heap.size w W) (hT : Clss w cb co cc) : Clss W cb co cc :=
  ⟨cell_later h hT.head, fun i hi => cell_later h (hT.cells i hi)⟩

set_option maxHeartbeats 1000000 in
theorem classOf_any (i : Nat) (hi : i ≤ 100000) (w : World) (cb co cc : Nat) (hc : Clss w cb co cc) : Calls Ybad.prog 12 #[.int .i64 i] w fun e w' => e = .returned (.int .i64 (clsN (i % 20))) ∧ Below w.heap.size w w' := by
  have h0 : ((i : Int).tmod 20) = ((i % 20 : Nat) : Int) := by rw [Int.tmod_eq_emod_of_nonneg (by omega)]; omega
  have hw : IntKind.i64.wrap ((i % 20 : Nat) : Int) = ((i % 20 : Nat) : Int) := by rw [IntKind.wrap_i64]; omega
  obtain ⟨r, hr⟩ : ∃ r, i % 20 = r := ⟨_, rfl⟩
  have hlt : r < 20 := by omega
  rw [hr] at h0 hw ⊢
  obtain ⟨R, hR⟩ : ∃ R, clsN r = R := ⟨_, rfl⟩
  rw [hR]
  have hh := hc.head
  go_enter Ybad.func12, Ybad.ntmps12
  go_wp2
  go_loopw [3, 10] (fun v i wr => ((v = .int .i64 r ∧ i = .int .i64 0) ∨ (v = .int .i64 (r - 3) ∧ i = .int .i64 1 ∧ 3 ≤ r) ∨ (v = .int .i64 (r - 8) ∧ i = .int .i64 2 ∧ 8 ≤ r) ∨ (v = .int .i64 (r - 16) ∧ i = .int .i64 3 ∧ 16 ≤ r)) ∧ Below w.heap.size w wr) (fun _ i _ => 4 - (intOf i).toNat)
  case atStart => exact ⟨.inl ⟨rfl, rfl⟩, Below.refl _ _⟩
  case round =>
    obtain ⟨hcase, hb⟩ := hrel
    have hC := hc.later hb
    rcases hcase with ⟨rfl, rfl⟩ | ⟨rfl, rfl, hq⟩ | ⟨rfl, rfl, hq⟩ | ⟨rfl, rfl, hq⟩
    · have c0 : wr.cell? ⟨cb, co, none⟩ = some (.int .i64 4000) := hC.cells 0 (by omega)
      have c1 : wr.cell? ⟨cb, co + 1, none⟩ = some (.int .i64 3) := hC.cells 1 (by omega)
      by_cases h : r < 3
      · have h' : (r : Int) < 3 := by omega
        go_wp2
        go_ret
        refine ⟨?_, ?_⟩
        · rw [← hR]; unfold clsN; simp [h]
        · exact hb.trans (((Below.refl _ _).alloc (Nat.le_refl _) _).mono hb.size)
      · have h' : ¬ (r : Int) < 3 := by omega
        go_wp2
        go_roundw
        case rel => exact ⟨.inr (.inl ⟨by go_num, rfl, by omega⟩), hb.trans (((Below.refl _ _).alloc (Nat.le_refl _) _).mono hb.size)⟩
        case measure => simp [intOf]
    · have c0 : wr.cell? ⟨cb, co + 2, none⟩ = some (.int .i64 1000) := hC.cells 2 (by omega)
      have c1 : wr.cell? ⟨cb, co + 2 + 1, none⟩ = some (.int .i64 5) := hC.cells 3 (by omega)
      have wq : IntKind.i64.wrap ((r : Int) - 8) = (r : Int) - 8 := by rw [IntKind.wrap_i64]; omega
      have aq : (r : Int) - 3 - 5 = (r : Int) - 8 := by omega
      by_cases h : r < 8
      · have h' : (r : Int) - 3 < 5 := by omega
        go_wp2
        go_ret
        refine ⟨?_, ?_⟩
        · rw [← hR]; unfold clsN
          have n0 : ¬ r < 3 := by omega
          simp [n0, h]
        · exact hb.trans (((Below.refl _ _).alloc (Nat.le_refl _) _).mono hb.size)
      · have h' : ¬ (r : Int) - 3 < 5 := by omega
        go_wp2
        go_roundw
        case rel => exact ⟨.inr (.inr (.inl ⟨by go_num, rfl, by omega⟩)), hb.trans (((Below.refl _ _).alloc (Nat.le_refl _) _).mono hb.size)⟩
        case measure => simp [intOf]
    · have c0 : wr.cell? ⟨cb, co + 4, none⟩ = some (.int .i64 384) := hC.cells 4 (by omega)
      have c1 : wr.cell? ⟨cb, co + 4 + 1, none⟩ = some (.int .i64 8) := hC.cells 5 (by omega)
      have wq : IntKind.i64.wrap ((r : Int) - 16) = (r : Int) - 16 := by rw [IntKind.wrap_i64]; omega
      have aq : (r : Int) - 8 - 8 = (r : Int) - 16 := by omega
      by_cases h : r < 16
      · have h' : (r : Int) - 8 < 8 := by omega
        go_wp2
        go_ret
        refine ⟨?_, ?_⟩
        · rw [← hR]; unfold clsN
          have n0 : ¬ r < 3 := by omega
          have n1 : ¬ r < 8 := by omega
          simp [n0, n1, h]
        · exact hb.trans (((Below.refl _ _).alloc (Nat.le_refl _) _).mono hb.size)
      · have h' : ¬ (r : Int) - 8 < 8 := by omega
        go_wp2
        go_roundw
        case rel => exact ⟨.inr (.inr (.inr ⟨by go_num, rfl, by omega⟩)), hb.trans (((Below.refl _ _).alloc (Nat.le_refl _) _).mono hb.size)⟩
        case measure => simp [intOf]
    · have c0 : wr.cell? ⟨cb, co + 6, none⟩ = some (.int .i64 128) := hC.cells 6 (by omega)
      have c1 : wr.cell? ⟨cb, co + 6 + 1, none⟩ = some (.int .i64 4) := hC.cells 7 (by omega)
      have wq : IntKind.i64.wrap ((r : Int) - 20) = (r : Int) - 20 := by rw [IntKind.wrap_i64]; omega
      have aq : (r : Int) - 16 - 4 = (r : Int) - 20 := by omega
      have h' : (r : Int) - 16 < 4 := by omega
      go_wp2
      go_ret
      refine ⟨?_, ?_⟩
      · rw [← hR]; unfold clsN
        have n0 : ¬ r < 3 := by omega
        have n1 : ¬ r < 8 := by omega
        have n2 : ¬ r < 16 := by omega
        simp [n0, n1, n2]
      · exact hb.trans (((Below.refl _ _).alloc (Nat.le_refl _) _).mono hb.size)
end Go.Proofs.YbulkcivsDoor
