/-
  THE PLACES THAT CAME IN, OPENED; the whole law of the mean.
-/
import Derived.Test.YbulkcivsDoorLd
namespace Go.Proofs.YbulkcivsDoor
open Go.ChangeShapes Go.WideShapes Go.ChangeAt Go.RowKit
set_option linter.unusedVariables false

/-- What the walks are told of the places. -/
def IsPlaces (w : World) (a : Option Addr) (n : Nat) : Prop :=
  ∃ b o, (0 < n → a = some ⟨b, o, none⟩) ∧ ∃ lat lon : Nat → Nat,
    (∀ i, i < n → w.cell? ⟨b, o + i * 2, none⟩ = some (.float .f64 (lat i)) ∧ w.cell? ⟨b, o + i * 2 + 1, none⟩ = some (.float .f64 (lon i))) ∧
    (∀ i, i < n → lat i < 2 ^ 64 ∧ lon i < 2 ^ 64)

theorem wf_lt {b : Nat} (h : (Lit.float .f64 b).wf = true) : b < 2 ^ 64 := by
  simpa [Lit.wf] using h

set_option maxRecDepth 100000 in
theorem places_of {H : Type} {enc : TypeId × Value → H} {w : World} {a0 : Option Addr} {len cap : Nat} {d : DataW H} {p : List MemPlace}
    (h : DataW.Trod enc Ybad.prog w 0 (fun _ => true) true 23 (.slice a0 len cap) d p) : IsPlaces w a0 len := by
  obtain ⟨fuel, hf⟩ := h
  rcases Go.Deep.open_slice Ybad.underlying23 hf with ⟨hcs, _⟩ | ⟨a, l, c, m, n, D, Pl, hcs, _, hl, _, hm, _, hel⟩
  · simp [Value.cells] at hcs
    obtain ⟨_, rfl, _⟩ := hcs
    exact ⟨0, 0, fun h => by omega, fun _ => 0, fun _ => 0, fun i hi => by omega, fun i hi => by omega⟩
  · simp [Value.cells] at hcs
    obtain ⟨rfl, rfl, rfl⟩ := hcs
    rw [Ybad.c41] at hel
    simp only [if_true] at hm
    subst hm
    have key : ∀ i, i < len → ∃ x : Nat × Nat, (w.cell? ((a.add (i * 2)).add 0) = some (.float .f64 x.1) ∧ w.cell? ((a.add (i * 2)).add 1) = some (.float .f64 x.2)) ∧ x.1 < 2 ^ 64 ∧ x.2 < 2 ^ 64 := by
      intro i hi
      obtain ⟨cs', hc, ht⟩ := hel i (by omega)
      obtain ⟨c0, c1, rfl, e0, e1⟩ := cells2of hc
      obtain ⟨y0, y1, k, hy, _, s0, s1⟩ := trod_struct2 Ybad.underlying41 ht
      simp only [Ybad.c22] at s0 s1
      obtain ⟨n0, z0, _, w0⟩ := trod_float Ybad.underlying22 s0
      obtain ⟨n1, z1, _, w1⟩ := trod_float Ybad.underlying22 s1
      simp at z0 z1
      subst z0 z1
      exact ⟨(n0, n1), ⟨e0, e1⟩, wf_lt w0, wf_lt w1⟩
    by_cases hz : len = 0
    · subst hz
      exact ⟨0, 0, fun h => by omega, fun _ => 0, fun _ => 0, fun i hi => by omega, fun i hi => by omega⟩
    · obtain ⟨b, off, spot⟩ := a
      have hspot : spot = none := by
        obtain ⟨x, ⟨g0, _⟩, _⟩ := key 0 (by omega)
        simpa [Addr.add] using World.cell?_spot g0
      subst hspot
      obtain ⟨f, hf⟩ := Go.Deep.choose_lt key
      refine ⟨b, off, fun _ => rfl, fun i => (f i).1, fun i => (f i).2, fun i hi => ?_, fun i hi => (hf i hi).2⟩
      have := (hf i hi).1
      simpa [Addr.add_lit] using this

theorem mean_all (n : Int) (rs : Nat) (isps : Int) (pen : Nat) (sa : Option Addr) (c sc : Nat) (w : World) (hp : IsPlaces w sa c) (hT : Tabs w) (hC : ∃ lb lo lc, Clss w lb lo lc) :
    Calls Ybad.prog 3 #[.int .i64 n, .float .f64 rs, .int .i64 isps, .float .f64 pen, .slice sa c sc] w fun e w' => e = .returned (.bool true) ∧ Below w.heap.size w w' := by
  by_cases h1 : n ≤ 100000
  · by_cases h2 : c ≤ 64
    · obtain ⟨K, hK⟩ := dist_all
      obtain ⟨b, o, hsa, lat, lon, hit, hlt⟩ := hp
      obtain ⟨lb, lo, lc, hcl⟩ := hC
      exact mean_main K n rs isps pen sa b o c sc lat lon w h1 h2 hsa hit hT lb lo lc hcl fun i j hi hj => (hK (lat i, lon i) (lat j, lon j) (hlt i hi).1 (hlt i hi).2 (hlt j hj).1 (hlt j hj).2).1
    · exact mean_long _ _ _ _ _ _ _ _ h1 h2
  · exact mean_far _ _ _ _ _ _ h1

/-- The door's own heap meets the condition. -/
theorem door_met (os : Os) (args : Array Value) : laidMetH Ybad.prog laid4 ((World.doorLaid Ybad.prog 33 os).forCall (fun _ _ => 0) ⟨#[], args, []⟩).memory :=
  laidMetH_of_parts3 (fuel := 8) (laidMet_of_run' 8 (by kernel_rfl) (by kernel_rfl)) (by kernel_rfl) (by kernel_rfl)

theorem vars_one {H : Type} {enc : TypeId × Value → H} {P : Program} {w : World} {sp : Nat → Bool} {n : String} {gs : List (DataW H)} {q : List MemPlace} (h : DataW.TrodVars enc P w sp [n] gs q) : ∃ g, gs = [g] := by
  match gs, h with
  | [], h => exact h.elim
  | [g], _ => exact ⟨g, rfl⟩
  | _ :: _ :: _, h =>
    obtain ⟨_, _, _, _, _, _, _, _, _, _, h, _⟩ := h
    exact h.elim
end Go.Proofs.YbulkcivsDoor
