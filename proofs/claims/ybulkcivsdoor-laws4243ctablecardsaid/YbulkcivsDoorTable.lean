/-
  THE LAW OF THE TABLE: the row, then the tied card.
-/
import Derived.Test.YbulkcivsDoorLe
import Derived.Test.YbulkcivsDoorTB
import Derived.Test.YbulkcivsDoorTie
import Derived.Test.YbulkcivsDoorCards
import Derived.SevenTiedAt
namespace Go.Proofs.YbulkcivsDoor
open Go.ChangeShapes Go.WideShapes Go.ChangeAt Go.RowKit

theorem table_all (big : Bool) (sa : Option Addr) (c sc : Nat) (w : World) (hp : IsPlaces w sa c) (hT : Tabs w) (hC : ∃ lb lo lc, Clss w lb lo lc) :
    Calls Ybad.prog 4 #[.slice sa c sc, .bool big] w fun e w' => e = .returned (.bool true) ∧ Below w.heap.size w w' := by
  by_cases h2 : c ≤ 64
  · obtain ⟨K, hK⟩ := dist_all
    obtain ⟨b, o, hsa, lat, lon, hit, hlt⟩ := hp
    obtain ⟨lb, lo, lc, hcl⟩ := hC
    cases big with
    | true =>
      by_cases hz : c = 0
      · exact tab_big0 K sa b o c sc lat lon w h2 hsa hit hT lb lo lc hcl 0 0 hz rfl rfl (hK (0, 0) (0, 0) (by decide) (by decide) (by decide) (by decide)).1
      · have h0 := hlt 0 (by omega)
        exact tab_bigN K sa b o c sc lat lon w h2 hsa hit hT lb lo lc hcl (lat 0) (lon 0) (by omega) rfl rfl (hK (lat 0, lon 0) (lat 0, lon 0) h0.1 h0.2 h0.1 h0.2).1
    | false =>
      have key := fun i j (hi : i < c) (hj : j < c) => hK (lat i, lon i) (lat j, lon j) (hlt i hi).1 (hlt i hi).2 (hlt j hj).1 (hlt j hj).2
      exact tab_main (fun i j => K (lat i, lon i) (lat j, lon j)) sa b o c sc lat lon w h2 hsa hit hT lb lo lc hcl hlt (fun i j hi hj => (key i j hi hj).1) (fun i j hi hj => (key i j hi hj).2.1) (fun i hi => (key i i hi hi).2.2)
  · exact tab_long _ _ _ _ _ h2

set_option maxRecDepth 100000 in
theorem table_lifted (os : Os) (started : os.Started) (H : Type) (enc : TypeId × Value → H) :
    ReturnsInHanded {} Ybad.checked os 4 .any (fun w args => (Rows.lawS4243CTableSpec.pre enc Ybad.prog Ybad.f4 [] false w args ∧ laidMetH Ybad.prog laid4 w) ∧ sizedMet enc Ybad.prog Ybad.f4 (OpenSpec.ofChange Rows.lawS4243CTableSpec) false w args)
      (Rows.lawS4243CTableSpec.post enc Ybad.prog Ybad.f4 false true false false) := by
  refine returnsInHanded_of_change_and (C := Ybad.checked) (X := fun w _ => laidMetH Ybad.prog laid4 w) (fun _ _ _ hh h => h.of_heap hh) Ybad.own started (by kernel_rfl) Ybad.func4
    (ChangeSpec.witness_shaped (enc := enc) (C := Ybad.checked) (os := os) (X := fun w _ => laidMetH Ybad.prog laid4 w) false (World.doorLaid Ybad.prog 33 os) #[.slice none 0 0, .bool false] 8 rfl (World.shaped_of_RefB (by kernel_rfl) (by kernel_rfl)) (by kernel_rfl) (by kernel_rfl) (by kernel_rfl) (door_met os _)) ?_
  intro W base args ds gs before hval0 hW _ _ hL _
  have hval : ∀ (j : Nat) t v, Ybad.f4.params[j]? = some t → args[j]? = some v → Value.okWide Ybad.prog W .any base t v := hval0
  have hW' := hW
  obtain ⟨p, q, hA0, hV, rfl, hfz, hnd⟩ := hW
  have hA : DataW.TrodAll enc Ybad.prog W 0 (fun _ => true) true Ybad.f4.params.toList args.toList ds p := hA0
  rw [Ybad.params4] at hA hval
  obtain ⟨v0, vs0, d0, ds0, p0, q0, hargs, rfl, rfl, h0, r0⟩ := trodAll_cons hA
  obtain ⟨v1, vs1, d1, ds1, p1, q1, rfl, rfl, rfl, h1, r1⟩ := trodAll_cons r0
  obtain ⟨rfl, rfl, rfl⟩ := trodAll_nil r1
  obtain rfl : args = #[v0, v1] := by cases args; simp_all
  obtain ⟨g1, rfl⟩ := vars_one hV
  obtain ⟨a0, len0, cap0, rfl⟩ := okWide_slice Ybad.underlying23 (hval 0 23 v0 rfl rfl)
  obtain ⟨big, rfl, rfl, rfl⟩ := open_bool Ybad.underlying4 (hval 1 4 v1 rfl rfl) h1
  have k0 := h0
  have lt0 : ∀ x ∈ p0, x.block < W.heap.size := by obtain ⟨m, hm⟩ := k0; exact DataW.trod_lt m _ _ _ hm
  have w0 := places_of h0
  obtain ⟨hT, hC⟩ := of_laid hL
  clear hA0 hval0
  refine (table_all big a0 len0 cap0 W w0 hT hC).mono fun e W' ⟨he, bel⟩ => ?_
  subst he
  exact ⟨_, rfl, _, _, _, [], _, _, hW', trodAll_mk1 (shut_bool Ybad.underlying4 _),
    (trodAll_cons_mk (Below.trod Ybad.laidOut (by kernel_rfl) (of_decide_eq_true (by kernel_rfl)) k0 bel lt0) (trodAll_cons_mk (shut_bool Ybad.underlying4 _) trodAll_mk0)),
    Below.trodVars Ybad.laidOut bel (by kernel_rfl) hV, bel.frame _, fun h => by cases h⟩

theorem lawS4243CTableRow_holds : Rows.LawS4243CTableSaid :=
  OpenClaim.holds_of_wide 4 Ybad.f4 rfl rfl rfl rfl rfl rfl rfl ⟨rfl, rfl, rfl, rfl, rfl⟩ rfl rfl rfl rfl rfl (by kernel_rfl) Ybad.func4 (by kernel_rfl)
    (of_decide_eq_true (by kernel_rfl)) (by unfold Func.isWrapper; first | (rw [if_pos (by decide +kernel)]; kernel_rfl) | (rw [if_neg (by decide +kernel)]; exact ⟨rfl, rfl⟩))
    (fun os started H enc _ => table_lifted os started H enc)

theorem table_num : Ybad.prog.funcNamed Rows.lawS4243CTableRow.func = some 4 := by kernel_rfl

/-- THE STATEMENT. -/
theorem lawS4243CTableCard_holds : Rows.LawS4243CTableCardSaid :=
  Claim7.holds_tied_plain_at .later [] [.data, .data, .data, .data] true Rows.lawS4243CTableCard.stood.harness false
    lawS4243CTableRow_holds (fun _ h => by cases h) (by kernel_rfl) (fun _ h => by cases h) lawS4243CTable_row_tie rfl ⟨rfl, rfl⟩ (by kernel_rfl) rfl
    (fun f fn hf hfn => by
      obtain rfl : f = 4 := Option.some.inj (table_num.symm.trans hf) |>.symm
      obtain rfl : fn = Ybad.f4 := (Option.some.inj (Ybad.func4.symm.trans hfn)).symm
      exact ⟨by kernel_rfl, fun j t ht => by
        rw [Ybad.params4] at ht
        have hm : t ∈ [23, 4] := by simpa using Array.mem_of_getElem? ht
        have hall : ([23, 4].all fun u => !Ybad.prog.wantsStandIn u) = true := by kernel_rfl
        exact (show Ybad.prog.wantsStandIn t = false by simpa using List.all_eq_true.1 hall t hm)⟩)
    (by kernel_rfl)
end Go.Proofs.YbulkcivsDoor
