/-
  THE LAW OF THE MEAN: the row, then the tied card.
-/
import Derived.Test.YbulkcivsDoorLe
import Derived.Test.YbulkcivsDoorTie
import Derived.Test.YbulkcivsDoorCards
import Derived.SevenTiedAt
namespace Go.Proofs.YbulkcivsDoor
open Go.ChangeShapes Go.WideShapes Go.ChangeAt Go.RowKit

set_option maxRecDepth 100000 in
theorem mean_lifted (os : Os) (started : os.Started) (H : Type) (enc : TypeId × Value → H) :
    ReturnsInHanded {} Ybad.checked os 3 .any (fun w args => (Rows.lawS4243CMeanSpec.pre enc Ybad.prog Ybad.f3 [] false w args ∧ laidMetH Ybad.prog laid4 w) ∧ sizedMet enc Ybad.prog Ybad.f3 (OpenSpec.ofChange Rows.lawS4243CMeanSpec) false w args)
      (Rows.lawS4243CMeanSpec.post enc Ybad.prog Ybad.f3 false true false false) := by
  refine returnsInHanded_of_change_and (C := Ybad.checked) (X := fun w _ => laidMetH Ybad.prog laid4 w) (fun _ _ _ hh h => h.of_heap hh) Ybad.own started (by kernel_rfl) Ybad.func3
    (ChangeSpec.witness_shaped (enc := enc) (C := Ybad.checked) (os := os) (X := fun w _ => laidMetH Ybad.prog laid4 w) false (World.doorLaid Ybad.prog 33 os) #[.int .i64 0, .float .f64 0, .int .i64 0, .float .f64 0, .slice none 0 0] 8 rfl (World.shaped_of_RefB (by kernel_rfl) (by kernel_rfl)) (by kernel_rfl) (by kernel_rfl) (by kernel_rfl) (door_met os _)) ?_
  intro W base args ds gs before hval0 hW _ _ hL _
  have hval : ∀ (j : Nat) t v, Ybad.f3.params[j]? = some t → args[j]? = some v → Value.okWide Ybad.prog W .any base t v := hval0
  have hW' := hW
  obtain ⟨p, q, hA0, hV, rfl, hfz, hnd⟩ := hW
  have hA : DataW.TrodAll enc Ybad.prog W 0 (fun _ => true) true Ybad.f3.params.toList args.toList ds p := hA0
  rw [Ybad.params3] at hA hval
  obtain ⟨v0, vs0, d0, ds0, p0, q0, hargs, rfl, rfl, h0, r0⟩ := trodAll_cons hA
  obtain ⟨v1, vs1, d1, ds1, p1, q1, rfl, rfl, rfl, h1, r1⟩ := trodAll_cons r0
  obtain ⟨v2, vs2, d2, ds2, p2, q2, rfl, rfl, rfl, h2, r2⟩ := trodAll_cons r1
  obtain ⟨v3, vs3, d3, ds3, p3, q3, rfl, rfl, rfl, h3, r3⟩ := trodAll_cons r2
  obtain ⟨v4, vs4, d4, ds4, p4, q4, rfl, rfl, rfl, h4, r4⟩ := trodAll_cons r3
  obtain ⟨rfl, rfl, rfl⟩ := trodAll_nil r4
  obtain rfl : args = #[v0, v1, v2, v3, v4] := by cases args; simp_all
  obtain ⟨g1, rfl⟩ := vars_one hV
  obtain ⟨n, rfl, rfl, rfl, hwn⟩ := open_int Ybad.underlying3 (hval 0 3 v0 rfl rfl) h0
  obtain ⟨rs, rfl, rfl, rfl, hw1⟩ := open_float Ybad.underlying22 (hval 1 22 v1 rfl rfl) h1
  obtain ⟨isps, rfl, rfl, rfl, hw2⟩ := open_int Ybad.underlying3 (hval 2 3 v2 rfl rfl) h2
  obtain ⟨pen, rfl, rfl, rfl, hw3⟩ := open_float Ybad.underlying22 (hval 3 22 v3 rfl rfl) h3
  obtain ⟨a4, len4, cap4, rfl⟩ := okWide_slice Ybad.underlying23 (hval 4 23 v4 rfl rfl)
  have k4 := h4
  have lt4 : ∀ x ∈ p4, x.block < W.heap.size := by obtain ⟨m, hm⟩ := k4; exact DataW.trod_lt m _ _ _ hm
  have w4 := places_of h4
  obtain ⟨hT, hC⟩ := of_laid hL
  clear hA0 hval0
  refine (mean_all n rs isps pen a4 len4 cap4 W w4 hT hC).mono fun e W' ⟨he, bel⟩ => ?_
  subst he
  exact ⟨_, rfl, _, _, _, [], _, _, hW', trodAll_mk1 (shut_bool Ybad.underlying4 _),
    (trodAll_cons_mk (shut_int Ybad.underlying3 hwn) (trodAll_cons_mk (shut_float Ybad.underlying22 hw1) (trodAll_cons_mk (shut_int Ybad.underlying3 hw2) (trodAll_cons_mk (shut_float Ybad.underlying22 hw3)
      (trodAll_cons_mk (Below.trod Ybad.laidOut (by kernel_rfl) (of_decide_eq_true (by kernel_rfl)) k4 bel lt4) trodAll_mk0))))),
    Below.trodVars Ybad.laidOut bel (by kernel_rfl) hV, bel.frame _, fun h => by cases h⟩

theorem lawS4243CMeanRow_holds : Rows.LawS4243CMeanSaid :=
  OpenClaim.holds_of_wide 3 Ybad.f3 rfl rfl rfl rfl rfl rfl rfl ⟨rfl, rfl, rfl, rfl, rfl⟩ rfl rfl rfl rfl rfl (by kernel_rfl) Ybad.func3 (by kernel_rfl)
    (of_decide_eq_true (by kernel_rfl)) (by unfold Func.isWrapper; first | (rw [if_pos (by decide +kernel)]; kernel_rfl) | (rw [if_neg (by decide +kernel)]; exact ⟨rfl, rfl⟩))
    (fun os started H enc _ => mean_lifted os started H enc)

theorem mean_num : Ybad.prog.funcNamed Rows.lawS4243CMeanRow.func = some 3 := by kernel_rfl

/-- THE STATEMENT. -/
theorem lawS4243CMeanCard_holds : Rows.LawS4243CMeanCardSaid :=
  Claim7.holds_tied_plain_at .later [] [.data, .data, .data, .data] true Rows.lawS4243CMeanCard.stood.harness false
    lawS4243CMeanRow_holds (fun _ h => by cases h) (by kernel_rfl) (fun _ h => by cases h) lawS4243CMean_row_tie rfl ⟨rfl, rfl⟩ (by kernel_rfl) rfl
    (fun f fn hf hfn => by
      obtain rfl : f = 3 := Option.some.inj (mean_num.symm.trans hf) |>.symm
      obtain rfl : fn = Ybad.f3 := (Option.some.inj (Ybad.func3.symm.trans hfn)).symm
      exact ⟨by kernel_rfl, fun j t ht => by
        rw [Ybad.params3] at ht
        have hm : t ∈ [3, 22, 3, 22, 23] := by simpa using Array.mem_of_getElem? ht
        have hall : ([3, 22, 3, 22, 23].all fun u => !Ybad.prog.wantsStandIn u) = true := by kernel_rfl
        exact (show Ybad.prog.wantsStandIn t = false by simpa using List.all_eq_true.1 hall t hm)⟩)
    (by kernel_rfl)
end Go.Proofs.YbulkcivsDoor
