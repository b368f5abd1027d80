/-
  WHAT THE ROWS' LISTED VARIABLES GIVE THE WALKS.
-/
import Derived.Test.YbulkcivsDoorMA
import Derived.Test.YbulkcivsDoorRows
import Derived.ProofKit
import Derived.OpenShut
import Derived.OpenVars
import Derived.LaidMore
import Derived.Deep.Slices
import Derived.Laws.Cover2
import Derived.Lib.LaidTab
import Derived.Stop.Joined
namespace Go.Proofs.YbulkcivsDoor
open Go.ChangeShapes Go.WideShapes Go.ChangeAt Go.RowKit

theorem Ybad.own : ownKnob Ybad.prog.godebug = none := by kernel_rfl
theorem Ybad.laidOut : laidOutB Ybad.prog = true := by kernel_rfl

section
variable {H : Type} {enc : TypeId × Value → H} {P : Program} {w : World} {base : Nat} {sp : Nat → Bool} {held : Bool} {fuel : Nat}
theorem trod_float {t : TypeId} {k : FloatKind} {cs : List Value} {x : DataW H × List MemPlace} (ht : P.underlying t = some (.float k)) (h : DataW.trod enc P w base sp held fuel t cs = some x) : ∃ n, cs = [.float k n] ∧ x = (.lit (.float k n), []) ∧ (Lit.float k n).wf = true := by
  cases fuel with
  | zero => simp [DataW.trod] at h
  | succ n =>
    unfold DataW.trod at h
    rw [ht] at h
    split at h <;> simp_all

theorem float_cell {t e : TypeId} {n : Nat} {k : FloatKind} {cs : List Value} {zs : List Nat} {p : List MemPlace} (ht : P.underlying t = some (.array n e)) (he : P.underlying e = some (.float k)) (hce : P.cellsOf e = 1)
    (h : DataW.trod enc P w base sp held fuel t cs = some (.agg (zs.map fun z => .lit (.float k z)), p)) (i : Nat) (hi : i < n) : cs[i]? = some (.float k (zs.getD i 0)) := by
  obtain ⟨xs, m, rfl, hx, hlen, hn, hel⟩ := DataW.trod_array ht h
  have h1 := hel i hi
  rw [hce, Nat.mul_one] at h1
  have h2 : xs[i]? = some (xs[i]'(by omega)) := by simp [hn, hi]
  rw [h2] at h1
  obtain ⟨b, hc, hy, _⟩ := trod_float he h1
  have hx1 : zs.map (fun z => (DataW.lit (.float k z) : DataW H)) = xs.map (·.1) := by
    have := congrArg Prod.fst hx
    simpa using this
  have h3 : (xs.map (·.1))[i]? = some (DataW.lit (.float k b) : DataW H) := by
    rw [List.getElem?_map, h2, hy]; rfl
  rw [← hx1, List.getElem?_map] at h3
  obtain ⟨z, hz, hzb⟩ := Option.map_eq_some_iff.1 h3
  cases hzb
  have h4 : cs[i]? = some (.float k b) := by
    have := congrArg (·[0]?) hc
    simpa [List.getElem?_take, List.getElem?_drop] using this
  rw [h4, List.getD_eq_getElem?_getD, hz]; rfl
theorem int_cell {t e : TypeId} {n : Nat} {k : IntKind} {cs : List Value} {zs : List Int} {p : List MemPlace} (ht : P.underlying t = some (.array n e)) (he : P.underlying e = some (.int k)) (hce : P.cellsOf e = 1)
    (h : DataW.trod enc P w base sp held fuel t cs = some (.agg (zs.map fun z => .lit (.int k z)), p)) (i : Nat) (hi : i < n) : cs[i]? = some (.int k (zs.getD i 0)) := by
  obtain ⟨xs, m, rfl, hx, hlen, hn, hel⟩ := DataW.trod_array ht h
  have h1 := hel i hi
  rw [hce, Nat.mul_one] at h1
  have h2 : xs[i]? = some (xs[i]'(by omega)) := by simp [hn, hi]
  rw [h2] at h1
  obtain ⟨b, hc, hy, _⟩ := DataW.trod_int he h1
  have hx1 : zs.map (fun z => (DataW.lit (.int k z) : DataW H)) = xs.map (·.1) := by
    have := congrArg Prod.fst hx
    simpa using this
  have h3 : (xs.map (·.1))[i]? = some (DataW.lit (.int k b) : DataW H) := by
    rw [List.getElem?_map, h2, hy]; rfl
  rw [← hx1, List.getElem?_map] at h3
  obtain ⟨z, hz, hzb⟩ := Option.map_eq_some_iff.1 h3
  cases hzb
  have h4 : cs[i]? = some (.int k b) := by
    have := congrArg (·[0]?) hc
    simpa [List.getElem?_take, List.getElem?_drop] using this
  rw [h4, List.getD_eq_getElem?_getD, hz]; rfl
end

theorem cells2of {w : World} {base : Nat} {a : Addr} {cs : List Value} (h : w.cells? base a 2 = some cs) :
    ∃ c0 c1, cs = [c0, c1] ∧ w.cell? (a.add 0) = some c0 ∧ w.cell? (a.add 1) = some c1 := by
  unfold World.cells? at h
  split at h
  · simp only [List.range, List.range.loop, List.mapM_cons, List.mapM_nil] at h
    cases e0 : w.cell? (a.add 0) with
    | none => simp [e0] at h
    | some c0 =>
    cases e1 : w.cell? (a.add 1) with
    | none => simp [e0, e1] at h
    | some c1 =>
      simp [e0, e1] at h
      exact ⟨c0, c1, h.symm, rfl, rfl⟩
  · cases h

abbrev laid4 : List (String × DataW Unit) := Rows.lawS4243CMeanRow.laid
theorem gSin : Ybad.prog.globalNamed "math._sin" = some 3 := by kernel_rfl
theorem gCos : Ybad.prog.globalNamed "math._cos" = some 2 := by kernel_rfl
theorem gPi : Ybad.prog.globalNamed "math.mPi4" = some 4 := by kernel_rfl
theorem gCls : Ybad.prog.globalNamed (laid4.getD 3 ("", .nil)).1 = some 0 := by kernel_rfl
theorem tSin : (Ybad.prog.globals[3]?).map (·.type) = some 52 := by kernel_rfl
theorem tCos : (Ybad.prog.globals[2]?).map (·.type) = some 52 := by kernel_rfl
theorem tPi : (Ybad.prog.globals[4]?).map (·.type) = some 54 := by kernel_rfl
theorem tCls : (Ybad.prog.globals[0]?).map (·.type) = some 44 := by kernel_rfl
theorem Ybad.c22 : Ybad.prog.cellsOf 22 = 1 := by kernel_rfl
theorem Ybad.c47 : Ybad.prog.cellsOf 47 = 1 := by kernel_rfl
theorem Ybad.c43 : Ybad.prog.cellsOf 43 = 2 := by kernel_rfl
theorem Ybad.c3 : Ybad.prog.cellsOf 3 = 1 := by kernel_rfl
theorem Ybad.c41 : Ybad.prog.cellsOf 41 = 2 := by kernel_rfl

theorem var_cell {W : World} {n : String} {g : Nat} {cs : Array Value} (hg : Ybad.prog.globalNamed n = some g) (hv : W.var? Ybad.prog n = some cs) (i : Nat) (v : Value) (h : cs.toList[i]? = some v) : W.cell? ⟨g, i, none⟩ = some v := by
  have := World.var?_cell hg hv i
  rw [this]
  simpa using h

set_option maxRecDepth 100000 in
theorem of_laid {W : World} (h : laidMetH Ybad.prog laid4 W) : Tabs W ∧ ∃ lb lo lc, Clss W lb lo lc := by
  rw [MakeChecks.laidMetH_plain _ _ _ (by kernel_rfl)] at h
  obtain ⟨ps, ⟨g0, t0, cs0, f0, p0, q0, hg0, ht0, hv0, hd0, ⟨g1, t1, cs1, f1, p1, q1, hg1, ht1, hv1, hd1, ⟨g2, t2, cs2, f2, p2, q2, hg2, ht2, hv2, hd2, ⟨g3, t3, cs3, f3, p3, q3, hg3, ht3, hv3, hd3, _, _⟩, _⟩, _⟩, _⟩, _, _⟩ := h
  obtain rfl := Option.some.inj (gSin.symm.trans hg0)
  obtain rfl := Option.some.inj (gCos.symm.trans hg1)
  obtain rfl := Option.some.inj (gPi.symm.trans hg2)
  obtain rfl := Option.some.inj (gCls.symm.trans hg3)
  obtain rfl := Option.some.inj (tSin.symm.trans ht0)
  obtain rfl := Option.some.inj (tCos.symm.trans ht1)
  obtain rfl := Option.some.inj (tPi.symm.trans ht2)
  obtain rfl := Option.some.inj (tCls.symm.trans ht3)
  refine ⟨⟨fun i hi => ?_, fun i hi => ?_, fun i hi => ?_⟩, ?_⟩
  · exact var_cell hg2 hv2 i _ (int_cell (zs := pi4L) Ybad.underlying54 Ybad.underlying47 Ybad.c47 hd2 i hi)
  · exact var_cell hg0 hv0 i _ (float_cell (zs := sinL) Ybad.underlying52 Ybad.underlying22 Ybad.c22 hd0 i hi)
  · exact var_cell hg1 hv1 i _ (float_cell (zs := cosL) Ybad.underlying52 Ybad.underlying22 Ybad.c22 hd1 i hi)
  · rcases Go.Deep.open_slice Ybad.underlying44 hd3 with ⟨_, hx⟩ | ⟨a, l, c, m, n, D, Pl, hcs, _, hl, _, hm, hx, hel⟩
    · cases hx
    · simp only [if_true] at hm
      subst hm
      have hx1 := congrArg Prod.fst hx
      have hx2 : ([.agg [.lit (.int .i64 4000), .lit (.int .i64 3)], .agg [.lit (.int .i64 1000), .lit (.int .i64 5)], .agg [.lit (.int .i64 384), .lit (.int .i64 8)], .agg [.lit (.int .i64 128), .lit (.int .i64 4)]] : List (DataW Unit)) = (List.range l).map D := by
        injection hx1
      have hl4 : l = 4 := by
        have := congrArg List.length hx2
        simpa using this.symm
      subst hl4
      rw [Ybad.c43] at hel
      have key : ∀ i (x y : Int), i < 4 → D i = .agg [.lit (.int .i64 x), .lit (.int .i64 y)] → W.cell? ((a.add (i * 2)).add 0) = some (.int .i64 x) ∧ W.cell? ((a.add (i * 2)).add 1) = some (.int .i64 y) := by
        intro i x y hi hD
        obtain ⟨cs', hc, ht⟩ := hel i (by omega)
        obtain ⟨c0, c1, rfl, e0, e1⟩ := cells2of hc
        obtain ⟨y0, y1, k, hy, _, s0, s1⟩ := trod_struct2 Ybad.underlying43 ht
        simp only [Ybad.c3] at s0 s1
        obtain ⟨n0, z0, rfl, _⟩ := DataW.trod_int Ybad.underlying3 s0
        obtain ⟨n1, z1, rfl, _⟩ := DataW.trod_int Ybad.underlying3 s1
        have hy1 := congrArg Prod.fst hy
        rw [hD] at hy1
        simp at hy1 z0 z1
        obtain ⟨rfl, rfl⟩ := hy1
        subst z0 z1
        exact ⟨e0, e1⟩
      have hD : D 0 = .agg [.lit (.int .i64 4000), .lit (.int .i64 3)] ∧ D 1 = .agg [.lit (.int .i64 1000), .lit (.int .i64 5)] ∧ D 2 = .agg [.lit (.int .i64 384), .lit (.int .i64 8)] ∧ D 3 = .agg [.lit (.int .i64 128), .lit (.int .i64 4)] := by
        simp only [List.range, List.range.loop, List.map_cons, List.map_nil, List.cons.injEq, and_true] at hx2
        exact ⟨hx2.1.symm, hx2.2.1.symm, hx2.2.2.1.symm, hx2.2.2.2.symm⟩
      obtain ⟨d0, d1, d2, d3⟩ := hD
      have k0 := key 0 _ _ (by omega) d0
      have k1 := key 1 _ _ (by omega) d1
      have k2 := key 2 _ _ (by omega) d2
      have k3 := key 3 _ _ (by omega) d3
      obtain ⟨b, off, spot⟩ := a
      have hspot : spot = none := by simpa [Addr.add] using World.cell?_spot k0.1
      subst hspot
      simp [Addr.add_lit] at k0 k1 k2 k3
      refine ⟨b, off, m, var_cell hg3 hv3 0 _ ?_, fun i hi => ?_⟩
      · rw [hcs]; rfl
      · rcases i with _ | _ | _ | _ | _ | _ | _ | _ | i
        · exact k0.1
        · exact k0.2
        · exact k1.1
        · exact k1.2
        · exact k2.1
        · exact k2.2
        · exact k3.1
        · exact k3.2
        · omega
end Go.Proofs.YbulkcivsDoor
