/-
  The calls that came in, read off the world.
-/
import Derived.Test.YbulkcixiBuild
import Derived.ProofKit
import Derived.OpenShut
import Derived.ChangeOld
import Derived.Deep.Slices
import Derived.Lib.SmallJoins
namespace Go.Proofs.Ybulkcixi
open Go.ChangeShapes Go.WideShapes Go.ChangeAt Go.RowKit

theorem Yba.own : ownKnob Yba.prog.godebug = none := by kernel_rfl
theorem Yba.laidOut : laidOutB Yba.prog = true := by kernel_rfl

/-- WHAT THE WALK IS TOLD OF THE CALLS THAT CAME IN. -/
def IsIn (w : World) (a : Option Addr) (n : Nat) : Prop :=
  ∃ (sb so : Nat) (x : Nat → InD), (0 < n → a = some ⟨sb, so, none⟩) ∧ (∀ i, i < n → (x i).f < 256 ∧ (x i).o < 256 ∧ (x i).k < 256 ∧ (x i).v < 256 ∧ (x i).e < 256) ∧
    ∀ i, i < n → ∀ j v, (inCells (x i))[j]? = some v → w.cell? ⟨sb, so + i * 7 + j, none⟩ = some v

theorem cells7 {w : World} {base : Nat} {a : Addr} {cs : List Value} (h : w.cells? base a 7 = some cs) :
    ∃ c0 c1 c2 c3 c4 c5 c6, cs = [c0, c1, c2, c3, c4, c5, c6] ∧ w.cell? (a.add 0) = some c0 ∧ w.cell? (a.add 1) = some c1 ∧ w.cell? (a.add 2) = some c2 ∧ w.cell? (a.add 3) = some c3 ∧ w.cell? (a.add 4) = some c4 ∧ w.cell? (a.add 5) = some c5 ∧ w.cell? (a.add 6) = some c6 := by
  unfold World.cells? at h
  split at h
  · simp only [List.range, List.range.loop, List.mapM_cons, List.mapM_nil] at h
    cases e0 : w.cell? (a.add 0) with
    | none => simp [e0] at h
    | some c0 =>
    cases e1 : w.cell? (a.add 1) with
    | none => simp [e0, e1] at h
    | some c1 =>
    cases e2 : w.cell? (a.add 2) with
    | none => simp [e0, e1, e2] at h
    | some c2 =>
    cases e3 : w.cell? (a.add 3) with
    | none => simp [e0, e1, e2, e3] at h
    | some c3 =>
    cases e4 : w.cell? (a.add 4) with
    | none => simp [e0, e1, e2, e3, e4] at h
    | some c4 =>
    cases e5 : w.cell? (a.add 5) with
    | none => simp [e0, e1, e2, e3, e4, e5] at h
    | some c5 =>
    cases e6 : w.cell? (a.add 6) with
    | none => simp [e0, e1, e2, e3, e4, e5, e6] at h
    | some c6 =>
      simp [e0, e1, e2, e3, e4, e5, e6] at h
      exact ⟨c0, c1, c2, c3, c4, c5, c6, h.symm, rfl, rfl, rfl, rfl, rfl, rfl, rfl⟩
  · cases h

theorem byte_nat {z : Int} (h : (Lit.int .u8 z).wf = true) : ∃ m : Nat, z = (m : Int) ∧ m < 256 := by
  have h5 : (0 : Int) ≤ z ∧ z ≤ 255 := by simpa [Lit.wf, IntKind.min, IntKind.max, IntKind.signed, IntKind.bits] using h
  exact ⟨z.toNat, by omega, by omega⟩

set_option maxRecDepth 100000 in
theorem in_of {H : Type} {enc : TypeId × Value → H} {w : World} {a0 : Option Addr} {len cap : Nat} {d : DataW H} {p : List MemPlace}
    (h : DataW.Trod enc Yba.prog w 0 (fun _ => true) true 29 (.slice a0 len cap) d p) : IsIn w a0 len := by
  obtain ⟨fuel, hf⟩ := h
  rcases Go.Deep.open_slice Yba.underlying29 hf with ⟨hcs, _⟩ | ⟨a, l, c, m, n, D, Pl, hcs, _, hl, _, hm, _, hel⟩
  · simp [Value.cells] at hcs
    obtain ⟨rfl, rfl, rfl⟩ := hcs
    exact ⟨0, 0, fun _ => ⟨0, 0, 0, 0, false, 0, false⟩, fun h => by omega, fun i h => by omega, fun i h => by omega⟩
  · simp [Value.cells] at hcs
    obtain ⟨rfl, rfl, rfl⟩ := hcs
    have hc7 : Yba.prog.cellsOf 43 = 7 := by kernel_rfl
    rw [hc7] at hel
    simp only [if_true] at hm
    subst hm
    have key : ∀ i, i < len → ∃ x : InD, (∀ j v, (inCells x)[j]? = some v → w.cell? ((a.add (i * 7)).add j) = some v) ∧ x.f < 256 ∧ x.o < 256 ∧ x.k < 256 ∧ x.v < 256 ∧ x.e < 256 := by
      intro i hi
      obtain ⟨cs', hc, ht⟩ := hel i (by omega)
      obtain ⟨c0, c1, c2, c3, c4, c5, c6, rfl, g0, g1, g2, g3, g4, g5, g6⟩ := cells7 hc
      obtain ⟨xs, k, _, _, _, hlen, hfs⟩ := DataW.trod_struct Yba.underlying43 ht
      have hx : ∀ i, i < 7 → ∃ y, xs[i]? = some y := fun i hi => by
        have : i < xs.length := by rw [hlen]; exact hi
        exact ⟨xs[i], by simp [this]⟩
      have k5 : Yba.prog.cellsOf 5 = 1 := by kernel_rfl
      have k4 : Yba.prog.cellsOf 4 = 1 := by kernel_rfl
      obtain ⟨y0, hy0⟩ := hx 0 (by omega)
      obtain ⟨y1, hy1⟩ := hx 1 (by omega)
      obtain ⟨y2, hy2⟩ := hx 2 (by omega)
      obtain ⟨y3, hy3⟩ := hx 3 (by omega)
      obtain ⟨y4, hy4⟩ := hx 4 (by omega)
      obtain ⟨y5, hy5⟩ := hx 5 (by omega)
      obtain ⟨y6, hy6⟩ := hx 6 (by omega)
      have t0 : DataW.trod enc Yba.prog w 0 (fun _ => true) true k 5 (([c0, c1, c2, c3, c4, c5, c6].drop 0).take (Yba.prog.cellsOf 5)) = some y0 := (hfs 0 _ rfl).trans hy0
      have t1 : DataW.trod enc Yba.prog w 0 (fun _ => true) true k 5 (([c0, c1, c2, c3, c4, c5, c6].drop 1).take (Yba.prog.cellsOf 5)) = some y1 := (hfs 1 _ rfl).trans hy1
      have t2 : DataW.trod enc Yba.prog w 0 (fun _ => true) true k 5 (([c0, c1, c2, c3, c4, c5, c6].drop 2).take (Yba.prog.cellsOf 5)) = some y2 := (hfs 2 _ rfl).trans hy2
      have t3 : DataW.trod enc Yba.prog w 0 (fun _ => true) true k 5 (([c0, c1, c2, c3, c4, c5, c6].drop 3).take (Yba.prog.cellsOf 5)) = some y3 := (hfs 3 _ rfl).trans hy3
      have t4 : DataW.trod enc Yba.prog w 0 (fun _ => true) true k 4 (([c0, c1, c2, c3, c4, c5, c6].drop 4).take (Yba.prog.cellsOf 4)) = some y4 := (hfs 4 _ rfl).trans hy4
      have t5 : DataW.trod enc Yba.prog w 0 (fun _ => true) true k 5 (([c0, c1, c2, c3, c4, c5, c6].drop 5).take (Yba.prog.cellsOf 5)) = some y5 := (hfs 5 _ rfl).trans hy5
      have t6 : DataW.trod enc Yba.prog w 0 (fun _ => true) true k 4 (([c0, c1, c2, c3, c4, c5, c6].drop 6).take (Yba.prog.cellsOf 4)) = some y6 := (hfs 6 _ rfl).trans hy6
      simp only [k5, k4] at t0 t1 t2 t3 t4 t5 t6
      obtain ⟨s0, e0, _, w0⟩ := DataW.trod_int Yba.underlying5 t0
      obtain ⟨s1, e1, _, w1⟩ := DataW.trod_int Yba.underlying5 t1
      obtain ⟨s2, e2, _, w2⟩ := DataW.trod_int Yba.underlying5 t2
      obtain ⟨s3, e3, _, w3⟩ := DataW.trod_int Yba.underlying5 t3
      obtain ⟨s4, e4, _⟩ := DataW.trod_bool Yba.underlying4 t4
      obtain ⟨s5, e5, _, w5⟩ := DataW.trod_int Yba.underlying5 t5
      obtain ⟨s6, e6, _⟩ := DataW.trod_bool Yba.underlying4 t6
      simp at e0 e1 e2 e3 e4 e5 e6
      subst e0 e1 e2 e3 e4 e5 e6
      obtain ⟨m0, rfl, b0⟩ := byte_nat w0
      obtain ⟨m1, rfl, b1⟩ := byte_nat w1
      obtain ⟨m2, rfl, b2⟩ := byte_nat w2
      obtain ⟨m3, rfl, b3⟩ := byte_nat w3
      obtain ⟨m5, rfl, b5⟩ := byte_nat w5
      refine ⟨⟨m0, m1, m2, m3, s4, m5, s6⟩, fun j v hv => ?_, b0, b1, b2, b3, b5⟩
      rcases j with _ | _ | _ | _ | _ | _ | _ | j
      · simp only [inCells, List.getElem?_cons_zero, Option.some.injEq] at hv; rw [← hv]; exact g0
      · simp only [inCells, List.getElem?_cons_succ, List.getElem?_cons_zero, Option.some.injEq] at hv; rw [← hv]; exact g1
      · simp only [inCells, List.getElem?_cons_succ, List.getElem?_cons_zero, Option.some.injEq] at hv; rw [← hv]; exact g2
      · simp only [inCells, List.getElem?_cons_succ, List.getElem?_cons_zero, Option.some.injEq] at hv; rw [← hv]; exact g3
      · simp only [inCells, List.getElem?_cons_succ, List.getElem?_cons_zero, Option.some.injEq] at hv; rw [← hv]; exact g4
      · simp only [inCells, List.getElem?_cons_succ, List.getElem?_cons_zero, Option.some.injEq] at hv; rw [← hv]; exact g5
      · simp only [inCells, List.getElem?_cons_succ, List.getElem?_cons_zero, Option.some.injEq] at hv; rw [← hv]; exact g6
      · simp [inCells] at hv
    obtain ⟨b, off, spot⟩ := a
    by_cases hz : len = 0
    · exact ⟨0, 0, fun _ => ⟨0, 0, 0, 0, false, 0, false⟩, fun h => by omega, fun i h => by omega, fun i h => by omega⟩
    · have hspot : spot = none := by
        obtain ⟨x, hq, _⟩ := key 0 (by omega)
        have g0 := hq 0 _ rfl
        simpa [Addr.add] using World.cell?_spot g0
      subst hspot
      have : Inhabited InD := ⟨⟨0, 0, 0, 0, false, 0, false⟩⟩
      obtain ⟨f, hf⟩ := Go.Deep.choose_lt key
      refine ⟨b, off, f, fun _ => rfl, fun i hi => (hf i hi).2, fun i hi j v hv => ?_⟩
      have := (hf i hi).1 j v hv
      simpa [Addr.add_lit] using this
end Go.Proofs.Ybulkcixi
