import Derived.Test.YbulkcivsCutD
import Derived.ProofKit
import Derived.OpenShut
import Derived.ChangeOld
import Derived.Deep.Slices
import Derived.Lib.SmallJoins
namespace Go.Proofs.Ybulkcivs
open Go.ChangeShapes Go.WideShapes Go.ChangeAt Go.RowKit

theorem Yba.own : ownKnob Yba.prog.godebug = none := by kernel_rfl
theorem Yba.laidOut : laidOutB Yba.prog = true := by kernel_rfl

/-- WHAT THE WALK IS TOLD OF THE BYTES THAT CAME IN. -/
def IsRow (w : World) (a : Option Addr) (len cap : Nat) (zs : List Int) : Prop :=
  (a = none ∧ len = 0 ∧ cap = 0 ∧ zs = []) ∨
  ∃ x, a = some x ∧ len ≤ cap ∧ zs.length = cap ∧ (∀ i, i < zs.length → w.cell? (x.add i) = some (.int .u8 (zs.getD i 0)))
/-- AND OF THE ITEMS. -/
def IsItems (w : World) (a : Option Addr) (n : Nat) : Prop :=
  n = 0 ∨ ∃ b o, a = some ⟨b, o, none⟩ ∧ ∃ (sel : Nat → Int) (nm vl : Nat → ByteArray) (tt : Nat → Int),
    (∀ i, i < n → w.cell? ⟨b, o + i * 4, none⟩ = some (.int .u8 (sel i)) ∧ w.cell? ⟨b, o + i * 4 + 1, none⟩ = some (.string (nm i)) ∧ w.cell? ⟨b, o + i * 4 + 2, none⟩ = some (.string (vl i)) ∧ w.cell? ⟨b, o + i * 4 + 3, none⟩ = some (.int .u16 (tt i))) ∧
    (∀ i, i < n → (0 ≤ sel i ∧ sel i ≤ 255) ∧ 0 ≤ tt i ∧ tt i ≤ 65535)

theorem conv_row {w : World} {a : Option Addr} {len cap : Nat} {zs : List Int} (h : IsRow w a len cap zs) (wx : World) (hb : Below w.heap.size w wx) (l : Nat) (hl : l ≤ len) :
    ∃ s, (convert 22 9 (.slice a l cap)).run Yba.prog wx = .ok (.string s) wx := by
  rcases h with ⟨rfl, rfl, rfl, rfl⟩ | ⟨x, rfl, hlc, hz, hcell⟩
  · exact ⟨_, run_convert_bytes_nil wx 22 5 Yba.underlying22 Yba.underlying5 l 0 9 Yba.underlying9⟩
  · by_cases h0 : l = 0
    · subst h0
      have hld : (loadCells x 0).run Yba.prog wx = .ok (([] : List Int).map (Value.int .u8)).toArray wx := by
        have := run_loadCells_list (P := Yba.prog) wx x [] (by simp)
        simpa using this
      exact ⟨_, by rw [run_convert_bytes_string wx 22 9 5 _ 0 cap Yba.underlying22 Yba.underlying5 Yba.underlying9, run_bytesToString wx _ 0 cap [] hld]⟩
    · obtain ⟨b, off, rfl, hc⟩ := ints_at hcell (by omega)
      exact ⟨_, run_convert_bytes_arg wx 22 5 Yba.underlying22 Yba.underlying5 b off l cap (zs.take l) (by simp; omega)
        (fun i hi => by rw [cell_later hb (hc i (by omega))]; simp [hi, show i < zs.length by omega]) 9 Yba.underlying9⟩

theorem cut_all (ma : Option Addr) (ml mc : Nat) (zs : List Int) (ia : Option Addr) (n ic : Nat) (w : World) (h0 : IsRow w ma ml mc zs) (h1 : IsItems w ia n) :
    Calls Yba.prog 4 #[.slice ma ml mc, .slice ia n ic] w fun e w' => e = .returned (.bool true) ∧ Below w.heap.size w w' := by
  by_cases c1 : 1024 < n
  · exact cut_long _ _ _ _ _ _ _ c1
  by_cases c2 : 1048576 < ml
  · exact cut_long2 _ _ _ _ _ _ _ (by omega) c2
  rcases h1 with rfl | ⟨b, o, rfl, sel, nm, vl, tt, hit, hb⟩
  · exact cut_none _ _ _ _ _ _ (by omega)
  · refine cut_any ma ml mc b o n ic sel nm vl tt w (by omega) (by omega) hit ?_ ?_ (conv_row h0) hb
    · rcases h0 with ⟨_, rfl, rfl, _⟩ | ⟨x, _, hlc, _⟩
      · exact Nat.le_refl _
      · exact hlc
    · rcases h0 with ⟨_, h, _⟩ | ⟨x, rfl, hlc, hz, hcell⟩
      · exact .inl h
      · by_cases h0 : ml = 0
        · exact .inl h0
        · obtain ⟨b, off, rfl, hc⟩ := ints_at hcell (by omega)
          exact .inr ⟨b, off, rfl⟩

theorem cells4 {w : World} {base : Nat} {a : Addr} {cs : List Value} (h : w.cells? base a 4 = some cs) :
    ∃ c0 c1 c2 c3, cs = [c0, c1, c2, c3] ∧ w.cell? (a.add 0) = some c0 ∧ w.cell? (a.add 1) = some c1 ∧ w.cell? (a.add 2) = some c2 ∧ w.cell? (a.add 3) = some c3 := by
  unfold World.cells? at h
  split at h
  · simp only [List.range, List.range.loop, List.mapM_cons, List.mapM_nil] at h
    cases e0 : w.cell? (a.add 0) with
    | none => simp [e0] at h
    | some c0 =>
    cases e1 : w.cell? (a.add 1) with
    | none => simp [e0, e1] at h
    | some c1 =>
    cases e2 : w.cell? (a.add 2) with
    | none => simp [e0, e1, e2] at h
    | some c2 =>
    cases e3 : w.cell? (a.add 3) with
    | none => simp [e0, e1, e2, e3] at h
    | some c3 =>
      simp [e0, e1, e2, e3] at h
      exact ⟨c0, c1, c2, c3, h.symm, rfl, rfl, rfl, rfl⟩
  · cases h

set_option maxRecDepth 100000 in
theorem items_of {H : Type} {enc : TypeId × Value → H} {w : World} {a0 : Option Addr} {len cap : Nat} {d : DataW H} {p : List MemPlace}
    (h : DataW.Trod enc Yba.prog w 0 (fun _ => true) true 35 (.slice a0 len cap) d p) : IsItems w a0 len := by
  obtain ⟨fuel, hf⟩ := h
  rcases Go.Deep.open_slice Yba.underlying35 hf with ⟨hcs, _⟩ | ⟨a, l, c, m, n, D, Pl, hcs, _, hl, _, hm, _, hel⟩
  · simp [Value.cells] at hcs
    exact .inl hcs.2.1
  · simp [Value.cells] at hcs
    obtain ⟨rfl, rfl, rfl⟩ := hcs
    have hc4 : Yba.prog.cellsOf 39 = 4 := by kernel_rfl
    rw [hc4] at hel
    simp only [if_true] at hm
    subst hm
    have key : ∀ i, i < len → ∃ x : Int × ByteArray × ByteArray × Int, (w.cell? ((a.add (i * 4)).add 0) = some (.int .u8 x.1) ∧ w.cell? ((a.add (i * 4)).add 1) = some (.string x.2.1) ∧ w.cell? ((a.add (i * 4)).add 2) = some (.string x.2.2.1) ∧ w.cell? ((a.add (i * 4)).add 3) = some (.int .u16 x.2.2.2)) ∧ ((0 ≤ x.1 ∧ x.1 ≤ 255) ∧ 0 ≤ x.2.2.2 ∧ x.2.2.2 ≤ 65535) := by
      intro i hi
      obtain ⟨cs', hc, ht⟩ := hel i (by omega)
      obtain ⟨c0, c1, c2, c3, rfl, g0, g1, g2, g3⟩ := cells4 hc
      obtain ⟨y0, y1, y2, y3, k, _, _, t0, t1, t2, t3⟩ := Go.Joins.trod_struct4 Yba.underlying39 ht
      have k5 : Yba.prog.cellsOf 5 = 1 := by kernel_rfl
      have k9 : Yba.prog.cellsOf 9 = 1 := by kernel_rfl
      have k37 : Yba.prog.cellsOf 37 = 1 := by kernel_rfl
      simp only [k5, k9, k37] at t0 t1 t2 t3
      obtain ⟨s, e0, _, ws⟩ := DataW.trod_int Yba.underlying5 t0
      obtain ⟨nm, e1, _, _⟩ := DataW.trod_string Yba.underlying9 t1
      obtain ⟨vl, e2, _, _⟩ := DataW.trod_string Yba.underlying9 t2
      obtain ⟨t, e3, _, wt⟩ := DataW.trod_int Yba.underlying37 t3
      simp at e0 e1 e2 e3
      subst e0 e1 e2 e3
      have b5 : (0 : Int) ≤ s ∧ s ≤ 255 := by simpa [Lit.wf, IntKind.min, IntKind.max, IntKind.signed, IntKind.bits] using ws
      have b37 : (0 : Int) ≤ t ∧ t ≤ 65535 := by simpa [Lit.wf, IntKind.min, IntKind.max, IntKind.signed, IntKind.bits] using wt
      exact ⟨(s, nm, vl, t), ⟨g0, g1, g2, g3⟩, b5, b37⟩
    by_cases hz : len = 0
    · exact .inl hz
    · refine .inr ?_
      obtain ⟨b, off, spot⟩ := a
      have hspot : spot = none := by
        obtain ⟨x, ⟨g0, _⟩, _⟩ := key 0 (by omega)
        simpa [Addr.add] using World.cell?_spot g0
      subst hspot
      obtain ⟨f, hf⟩ := Go.Deep.choose_lt key
      refine ⟨b, off, rfl, fun i => (f i).1, fun i => (f i).2.1, fun i => (f i).2.2.1, fun i => (f i).2.2.2, fun i hi => ?_, fun i hi => (hf i hi).2⟩
      have := (hf i hi).1
      simpa [Addr.add_lit] using this

set_option maxRecDepth 100000 in
theorem cut_lifted (os : Os) (started : os.Started) (H : Type) (enc : TypeId × Value → H) :
    ReturnsInHanded {} Yba.checked os 4 .any (Rows.lawS4243BCutSpec.pre6 enc Yba.prog Yba.f4 Rows.lawS4243BCutRow.domain false) (Rows.lawS4243BCutSpec.post enc Yba.prog Yba.f4 false true false false) := by
  refine returnsInHanded_of_change (C := Yba.checked) Yba.own started (by kernel_rfl) Yba.func4
    (ChangeSpec.witness6 (enc := enc) (C := Yba.checked) false ⟨#[], #[.slice none 0 0, .slice none 0 0], []⟩ 8 (by kernel_rfl) (by kernel_rfl) (by kernel_rfl) (by kernel_rfl)) ?_
  intro W base args ds gs before hval0 hW hcnd _
  have hval : ∀ (j : Nat) t v, Yba.f4.params[j]? = some t → args[j]? = some v → Value.okWide Yba.prog W .any base t v := hval0
  have hW' := hW
  obtain ⟨p, q, hA0, hV, rfl, hfz, hnd⟩ := hW
  have hA : DataW.TrodAll enc Yba.prog W 0 (fun _ => true) true Yba.f4.params.toList args.toList ds p := hA0
  rw [Yba.params4] at hA hval
  obtain ⟨v0, vs0, d0, ds0, p0, q0, hargs, rfl, rfl, h0, r0⟩ := trodAll_cons hA
  obtain ⟨v1, vs1, d1, ds1, p1, q1, rfl, rfl, rfl, h1, r1⟩ := trodAll_cons r0
  obtain ⟨rfl, rfl, rfl⟩ := trodAll_nil r1
  obtain rfl : args = #[v0, v1] := by cases args; simp_all
  obtain ⟨rfl, rfl⟩ := trodVars_none hV
  obtain ⟨a0, len0, cap0, rfl⟩ := okWide_slice Yba.underlying22 (hval 0 22 v0 rfl rfl)
  have k0 := h0
  have lt0 : ∀ x ∈ p0, x.block < W.heap.size := by obtain ⟨m, hm⟩ := k0; exact DataW.trod_lt m _ _ _ hm
  obtain ⟨z0, w0⟩ : ∃ zs, IsRow W a0 len0 cap0 zs := by
    obtain ⟨fuel, hf⟩ := h0
    rcases open_ints Yba.underlying22 Yba.underlying5 (by kernel_rfl) hf with ⟨hcs, _⟩ | ⟨x, l, c, zs, hcs, _, hl, hm, hz, _, hcell, hwz⟩
    · simp [Value.cells] at hcs
      obtain ⟨rfl, rfl, rfl⟩ := hcs
      exact ⟨[], .inl ⟨rfl, rfl, rfl, rfl⟩⟩
    · simp [Value.cells] at hcs
      obtain ⟨rfl, rfl, rfl⟩ := hcs
      exact ⟨zs, .inr ⟨_, rfl, hl, by simpa using hz, hcell⟩⟩
  obtain ⟨a1, len1, cap1, rfl⟩ := okWide_slice Yba.underlying35 (hval 1 35 v1 rfl rfl)
  have k1 := h1
  have lt1 : ∀ x ∈ p1, x.block < W.heap.size := by obtain ⟨m, hm⟩ := k1; exact DataW.trod_lt m _ _ _ hm
  have w1 := items_of h1
  clear hA0 hval0
  refine (cut_all a0 len0 cap0 z0 a1 len1 cap1 W w0 w1).mono fun e W' ⟨he, bel⟩ => ?_
  subst he
  exact ⟨_, rfl, _, _, _, [], _, [], hW', trodAll_mk1 (shut_bool Yba.underlying4 _), (trodAll_cons_mk (Below.trod Yba.laidOut (by kernel_rfl) (of_decide_eq_true (by kernel_rfl)) k0 bel lt0) (trodAll_cons_mk (Below.trod Yba.laidOut (by kernel_rfl) (of_decide_eq_true (by kernel_rfl)) k1 bel lt1) trodAll_mk0)), rfl, bel.frame _, fun h => by cases h⟩

/-- THE STATEMENT. -/
theorem lawS4243BCut_holds : Rows.LawS4243BCutSaid :=
  OpenClaim.holds_of_wide 4 Yba.f4 rfl rfl rfl rfl rfl rfl rfl ⟨rfl, rfl, rfl, rfl, rfl⟩ rfl rfl rfl rfl rfl (by kernel_rfl) Yba.func4 (by kernel_rfl)
    (of_decide_eq_true (by kernel_rfl)) (by unfold Func.isWrapper; first | (rw [if_pos (by decide +kernel)]; kernel_rfl) | (rw [if_neg (by decide +kernel)]; exact ⟨rfl, rfl⟩))
    (fun os started H enc _ => cut_lifted os started H enc)
end Go.Proofs.Ybulkcivs
