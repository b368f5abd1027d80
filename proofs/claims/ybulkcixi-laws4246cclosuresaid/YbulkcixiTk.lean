/-
  tookEffect, walked.
-/
import Derived.Test.YbulkcixiSt
import Derived.Test.YbulkcixiOp3
import Derived.OwnWalk
import Derived.WalkSmall
namespace Go.Proofs.Ybulkcixi
open Go.RowKit
set_option linter.unusedVariables false
set_option linter.unusedSimpArgs false

theorem run_len {M : Nat} {es : List Ent} {clock : Nat} {w : World} (ty : TypeId) (hm : MapAt w M es clock) : (Builtin.len_ #[45] ty #[.map (some M)]).run Yba.prog w = .ok (.int .i64 (es.length : Nat)) w := by
  have u45 := Yba.underlying45
  unfold Builtin.len_
  simp only [List.getElem?_toArray, List.getElem?_cons_zero, Sem.run_bind, run_underlying u45, Result.andThen_ok, get_map hm, mapObj, Sem.run_pure]
  simp [goInt]

/-- A stack with a number on top. -/
theorem own_top {w : World} {base : Nat} {v : Value} {L : List Nat} {c : Nat} (h : w.ownsRow base 3 1 v (L ++ [c]).length (ints (L ++ [c]))) :
    ∃ g cap, v = .slice (some ⟨g, 0, none⟩) (L.length + 1) cap ∧ base ≤ g ∧ g < w.heap.size ∧ L.length + 1 ≤ cap ∧ w.cell? ⟨g, L.length, none⟩ = some (.int .i64 (c : Int)) ∧ w.ownsRow base 3 1 (.slice (some ⟨g, 0, none⟩) L.length cap) L.length (ints L) := by
  have e1 : (L ++ [c]).length = L.length + 1 := by simp
  have e2 : ints (L ++ [c]) = ints L ++ [.int .i64 (c : Int)] := by simp [ints]
  have e3 : (ints L).length = L.length := by simp [ints]
  rw [e1, e2] at h
  have h0 := h
  rcases h.2 with ⟨_, h1⟩ | ⟨g, cap, cur, rfl, hb, hg, hn, _⟩
  · omega
  · refine ⟨g, cap, rfl, hb, ?_, hn, ?_, ownsRow_pop (by rw [e3]; omega) h0⟩
    · rcases Nat.lt_or_ge g w.heap.size with hlt | hge
      · exact hlt
      · rw [Array.getElem?_eq_none hge] at hg; cases hg
    · rw [h0.cellAt L.length (by omega), ← e3]
      simp

theorem own_form {w : World} {base : Nat} {v : Value} {n : Nat} {xs : List Value} (h : w.ownsRow base 3 1 v n xs) : ∃ sp cp, v = .slice sp n cp ∧ (0 < n → ∃ gv, sp = some ⟨gv, 0, none⟩) := by
  rcases h.2 with ⟨rfl, rfl⟩ | ⟨g, cap, cur, rfl, _⟩
  · exact ⟨none, 0, rfl, fun h => by omega⟩
  · exact ⟨_, cap, rfl, fun _ => ⟨g, rfl⟩⟩
theorem row_apart {w : World} {base h : Nat} {v : Value} {n m : Nat} {xs : List Value} {F : Nat → Value → Prop} (hr : Row w h 47 m F) (ho : w.ownsRow base 3 1 v n xs) : some h ≠ v.ownBlock := by
  obtain ⟨xs', h1, _, _⟩ := hr.row
  rcases ho.2 with ⟨rfl, rfl⟩ | ⟨g, cap, cur, rfl, _, hg, _⟩
  · simp [Value.ownBlock]
  · intro hh
    simp only [Value.ownBlock, Option.some.injEq] at hh
    subst hh
    rw [h1] at hg
    simp at hg

/-! ### the region that draws its order -/
def needL (d : CallD) : List Value := [.string d.key, .int .i64 (needKv d).n, .bool (needKv d).b]
def lst23 (f : Nat) (d : CallD) (p : Value) : List Value := [.pointer (some ⟨f, 2, none⟩), .string d.key, .agg (callCells d).toArray, .agg #[.int .i64 (needKv d).n, .bool (needKv d).b], .agg #[.string d.key, .int .i64 (needKv d).n, .bool (needKv d).b], p, undef]
def R23 (f : Nat) (d : CallD) (o : Nat) (v : Value) (w : World) : Prop :=
  match o with
  | 5 => ∃ h, v = .pointer (some ⟨h, 0, none⟩) ∧ f + 1 ≤ h ∧ Row w h 47 3 (fun _ _ => True)
  | o => v = (lst23 f d undef).getD o undef
theorem keep23 {f : Nat} {d : CallD} {w w' : World} (hb : Below w.heap.size w w') : Keep3 (R23 f d) w w' := by
  intro j v h
  unfold R23 at h ⊢
  split
  · obtain ⟨x, h1, h2, h3⟩ := h
    exact ⟨x, h1, h2, h3.later hb h3.lt⟩
  · rename_i hj
    split at h
    · exact absurd rfl hj
    · exact h
theorem keep23_set {f : Nat} {d : CallD} {w : World} {h : Nat} {cs : List Value} : Keep3 (R23 f d) w (w.setCells h 0 cs) := by
  intro j v hr
  unfold R23 at hr ⊢
  split
  · obtain ⟨x, h1, h2, h3⟩ := hr
    refine ⟨x, h1, h2, ?_⟩
    by_cases e : x = h
    · subst e
      exact (Row.sets cs 0 w _ h3).mono fun _ _ _ _ => trivial
    · exact (Turn.sets h cs 0 w).row h3 e
  · rename_i hj
    split at hr
    · exact absurd rfl hj
    · exact hr

/-- What tookEffect and the model hand back. -/
def TookRes (n : Nat) (cs : Nat → CallD) (w : World) (e : Ending) (w' : World) : Prop :=
  ∃ (tb : Nat) (T : Nat → Bool), e = .returned (.slice (some ⟨tb, 0, none⟩) n n) ∧ Below w.heap.size w w' ∧ w.heap.size ≤ tb ∧ Least n cs T ∧ Row w' tb 4 n (fun i v => v = .bool (T i))

set_option maxRecDepth 100000 in
set_option maxHeartbeats 4000000 in
theorem took_any (B n sc : Nat) (cs : Nat → CallD) (w : World) (hn : n ≤ 1024) (hcs : Calls40 w B n cs) (hB : B < w.heap.size) :
    Calls Yba.prog 11 #[.slice (some ⟨B, 0, none⟩) n sc] w fun e w' => TookRes n cs w e w' := by
  have hn' : (n : Int) ≤ 1024 := by omega
  obtain ⟨W0, hmk, hb0, hs0, hT0⟩ := make_bools n hn w
  have hmm := @run_makeMap Yba.prog
  have HCS : Hid (Calls40 w B n cs) := hcs
  have HB0 : Hid (Below w.heap.size w W0) := hb0
  have HT0 : Hid (Row W0 w.heap.size 4 n (fun _ v => v = .bool false)) := hT0
  clear hcs hb0 hT0
  go_enter Yba.func11, Yba.ntmps11
  go_wp2
  obtain ⟨W1, hW1⟩ : ∃ W1, W1 = W0.alloc (.map #[] 0) := ⟨_, rfl⟩
  rw [← hW1]
  have hs1 : W1.heap.size = w.heap.size + 2 := by rw [hW1]; simp; omega
  have HB1 : Hid (Below w.heap.size w W1) := by rw [hW1]; exact HB0.out.alloc (by omega) _
  have HT1 : Hid (Row W1 w.heap.size 4 n (fun _ v => v = .bool false)) := by
    rw [hW1]; exact HT0.out.of_heap (Below.heap_alloc _ _ _ (by omega))
  have HM1 : Hid (MapInv W1 (w.heap.size + 1) (w.heap.size + 2) [] 0 (fun _ => [])) := by
    refine ⟨?_, by simp, by simp, by simp, by simp, by simp, by simp, fun k hk => absurd rfl hk⟩
    unfold MapAt mapObj
    rw [hW1, ← hs0]
    exact heap_alloc_new W0 _
  clear hW1 HB0 HT0 hmk
  go_loopw [20] (fun i wr => ∃ k : Nat, k ≤ n ∧ i = .int .i64 k ∧ Below w.heap.size w wr ∧ w.heap.size + 2 ≤ wr.heap.size ∧ Row wr w.heap.size 4 n (fun j v => v = .bool (decide (j < k ∧ (cs j).oc = 1))) ∧ ∃ es clock, MapInv wr (w.heap.size + 1) (w.heap.size + 2) es clock (G1 cs k) ∧ entSum es ≤ k) (fun i _ => n - (intOf i).toNat)
  case atStart => exact ⟨0, Nat.zero_le _, rfl, HB1.out, by omega, HT1.out.mono fun j v _ h => by simpa using h, [], 0, HM1.out, Nat.le_refl _⟩
  case round =>
    obtain ⟨k, hk, rfl, hb, hsz, hT, es, clock, hM, hsum⟩ := hrel
    by_cases hlt : k < n
    · have hlt' : (k : Int) < (n : Int) := by omega
      obtain ⟨c, hc⟩ : ∃ c, cs k = c := ⟨_, rfl⟩
      have q0 : wr.cell? ⟨B, k * 12, none⟩ = some (.string procS) := by have := cell_later hb (cells12 HCS.out hlt 0 (by omega)); rw [hc] at this; exact this
      have q1 : wr.cell? ⟨B, k * 12 + 1, none⟩ = some (.int .u8 c.f) := by have := cell_later hb (cells12 HCS.out hlt 1 (by omega)); rw [hc] at this; exact this
      have q2 : wr.cell? ⟨B, k * 12 + 2, none⟩ = some (.string c.key) := by have := cell_later hb (cells12 HCS.out hlt 2 (by omega)); rw [hc] at this; exact this
      have q3 : wr.cell? ⟨B, k * 12 + 3, none⟩ = some (.int .i64 c.vn) := by have := cell_later hb (cells12 HCS.out hlt 3 (by omega)); rw [hc] at this; exact this
      have q4 : wr.cell? ⟨B, k * 12 + 4, none⟩ = some (.bool c.vv) := by have := cell_later hb (cells12 HCS.out hlt 4 (by omega)); rw [hc] at this; exact this
      have q5 : wr.cell? ⟨B, k * 12 + 5, none⟩ = some (.int .i64 c.en) := by have := cell_later hb (cells12 HCS.out hlt 5 (by omega)); rw [hc] at this; exact this
      have q6 : wr.cell? ⟨B, k * 12 + 6, none⟩ = some (.bool c.ev) := by have := cell_later hb (cells12 HCS.out hlt 6 (by omega)); rw [hc] at this; exact this
      have q7 : wr.cell? ⟨B, k * 12 + 7, none⟩ = some (.int .u8 c.oc) := by have := cell_later hb (cells12 HCS.out hlt 7 (by omega)); rw [hc] at this; exact this
      have q8 : wr.cell? ⟨B, k * 12 + 8, none⟩ = some (.int .i64 0) := by have := cell_later hb (cells12 HCS.out hlt 8 (by omega)); rw [hc] at this; exact this
      have q9 : wr.cell? ⟨B, k * 12 + 9, none⟩ = some (.int .i64 0) := by have := cell_later hb (cells12 HCS.out hlt 9 (by omega)); rw [hc] at this; exact this
      have q10 : wr.cell? ⟨B, k * 12 + 10, none⟩ = some (.int .i64 0) := by have := cell_later hb (cells12 HCS.out hlt 10 (by omega)); rw [hc] at this; exact this
      have q11 : wr.cell? ⟨B, k * 12 + 11, none⟩ = some (.int .i64 0) := by have := cell_later hb (cells12 HCS.out hlt 11 (by omega)); rw [hc] at this; exact this
      have HBR : Hid (Below w.heap.size w wr) := hb
      have HTR : Hid (Row wr w.heap.size 4 n (fun j v => v = .bool (decide (j < k ∧ (cs j).oc = 1)))) := hT
      have HMR : Hid (MapInv wr (w.heap.size + 1) (w.heap.size + 2) es clock (G1 cs k)) := hM
      clear hb hT hM
      go_wp2_with (rw [st_guard])
      refine law_store 40 40 wr.heap.size (callCells c) (fun _ _ => True) (info_size Yba.inf40) (by rfl) (by rfl) (Row.alloc _ _ _ (fun _ _ => True) (fun _ _ _ => trivial)) (by rfl) ?_
      intro W2 ht2 hp2
      obtain ⟨f, hf⟩ : ∃ f, wr.heap.size = f := ⟨_, rfl⟩
      have hb2 : Below f wr W2 := by
        rw [← hf]
        exact Below.trans ((Below.refl _ _).alloc (Nat.le_refl _) _) ht2.below
      rw [hf] at hp2 hsz
      have hs2 : f < W2.heap.size := by rw [ht2.size]; simp; omega
      have g0 : W2.cell? ⟨f, 0, none⟩ = some (.string procS) := cell_row1 hp2 (i := 0) (by show 0 < 12; omega)
      have g1 : W2.cell? ⟨f, 1, none⟩ = some (.int .u8 c.f) := cell_row1 hp2 (i := 1) (by show 1 < 12; omega)
      have g2 : W2.cell? ⟨f, 2, none⟩ = some (.string c.key) := cell_row1 hp2 (i := 2) (by show 2 < 12; omega)
      have g3 : W2.cell? ⟨f, 3, none⟩ = some (.int .i64 c.vn) := cell_row1 hp2 (i := 3) (by show 3 < 12; omega)
      have g4 : W2.cell? ⟨f, 4, none⟩ = some (.bool c.vv) := cell_row1 hp2 (i := 4) (by show 4 < 12; omega)
      have g5 : W2.cell? ⟨f, 5, none⟩ = some (.int .i64 c.en) := cell_row1 hp2 (i := 5) (by show 5 < 12; omega)
      have g6 : W2.cell? ⟨f, 6, none⟩ = some (.bool c.ev) := cell_row1 hp2 (i := 6) (by show 6 < 12; omega)
      have g7 : W2.cell? ⟨f, 7, none⟩ = some (.int .u8 c.oc) := cell_row1 hp2 (i := 7) (by show 7 < 12; omega)
      have g8 : W2.cell? ⟨f, 8, none⟩ = some (.int .i64 0) := cell_row1 hp2 (i := 8) (by show 8 < 12; omega)
      have g9 : W2.cell? ⟨f, 9, none⟩ = some (.int .i64 0) := cell_row1 hp2 (i := 9) (by show 9 < 12; omega)
      have g10 : W2.cell? ⟨f, 10, none⟩ = some (.int .i64 0) := cell_row1 hp2 (i := 10) (by show 10 < 12; omega)
      have g11 : W2.cell? ⟨f, 11, none⟩ = some (.int .i64 0) := cell_row1 hp2 (i := 11) (by show 11 < 12; omega)
      have HF2 : Hid (Row W2 f 40 12 (fun i v => v = (callCells c).getD i undef)) := hp2
      have HB2 : Hid (Below w.heap.size w W2) := HBR.out.trans (hb2.mono (by omega))
      have HT2 : Hid (Row W2 w.heap.size 4 n (fun j v => v = .bool (decide (j < k ∧ (cs j).oc = 1)))) := HTR.out.later hb2 (by omega)
      have HM2 : Hid (MapInv W2 (w.heap.size + 1) (w.heap.size + 2) es clock (G1 cs k)) := HMR.out.keptB fun b hb _ => hb2.block b (by omega)
      clear ht2 hp2 hb2 q0 q1 q2 q3 q4 q5 q6 q7 q8 q9 q10 q11 HBR HTR HMR
      rw [hf]
      go_wp2_with (rw [st_guard])
      refine law_bool 4 w.heap.size k n (c.oc == 1) _ (by rfl) (by rfl) HT2.out hlt ?_
      intro W3 ht3 hp3
      have HF3 : Hid (Row W3 f 40 12 (fun i v => v = (callCells c).getD i undef)) := ht3.row HF2.out (by omega)
      have HB3 : Hid (Below w.heap.size w W3) := HB2.out.trans ht3.below
      have HM3 : Hid (MapInv W3 (w.heap.size + 1) (w.heap.size + 2) es clock (G1 cs k)) := HM2.out.keptB fun b hb hbb => ht3.other b (by omega)
      have hs3 : f < W3.heap.size := by rw [ht3.size]; exact hs2
      have HT3 : Hid (Row W3 w.heap.size 4 n (fun j v => v = .bool (decide (j < k + 1 ∧ (cs j).oc = 1)))) := hp3.mono fun j v _ h => by
        by_cases e : j = k
        · rw [if_pos e] at h
          rw [h, e, hc]
          congr 1
          by_cases ho : c.oc = 1 <;> simp [ho]
        · rw [if_neg e] at h
          rw [h]
          congr 1
          by_cases ho : (cs j).oc = 1
          · simp only [ho, and_true]
            by_cases hjk : j < k
            · simp [hjk, show j < k + 1 by omega]
            · simp [hjk, show ¬ j < k + 1 by omega]
          · simp [ho]
      clear ht3 hp3 g0 g1 g2 g3 g4 g5 g6 g7 g8 g9 g10 g11 HB2 HM2 HT2 HF2
      have g1 : W3.cell? ⟨f, 1, none⟩ = some (.int .u8 c.f) := cell_row1 HF3.out (i := 1) (by omega)
      have g2 : W3.cell? ⟨f, 2, none⟩ = some (.string c.key) := cell_row1 HF3.out (i := 2) (by omega)
      have g3 : W3.cell? ⟨f, 3, none⟩ = some (.int .i64 c.vn) := cell_row1 HF3.out (i := 3) (by omega)
      have g4 : W3.cell? ⟨f, 4, none⟩ = some (.bool c.vv) := cell_row1 HF3.out (i := 4) (by omega)
      have g7 : W3.cell? ⟨f, 7, none⟩ = some (.int .u8 c.oc) := cell_row1 HF3.out (i := 7) (by omega)
      have hwk : IntKind.i64.wrap ((k : Int) + 1) = (k : Int) + 1 := by rw [IntKind.wrap_i64]; omega
      by_cases ho : c.oc = 3
      · by_cases hf1 : c.f = 1
        · have HG : Hid (G1 cs (k + 1) = G1 cs k) := by
            show G1 cs (k + 1) = G1 cs k
            rw [G1, if_neg (by rw [hc]; simp [unkB, hf1])]
          go_wp2
          go_roundw
          case rel => exact ⟨k + 1, by omega, by go_num, HB3.out, by omega, HT3.out, es, clock, by rw [HG.out]; exact HM3.out, by omega⟩
          case measure => simp [intOf]; omega
        · have HG : Hid (G1 cs (k + 1) = addG (G1 cs k) (kvOf c) k) := by
            show G1 cs (k + 1) = _
            rw [G1, if_pos (by rw [hc]; simp [unkB, hf1, ho]), hc]
          have hfb : (c.f == 1) = false := by simp [hf1]
          go_wp2_with (rw [st_guard])
          refine law_store 47 47 W3.heap.size [.string c.key, .int .i64 c.vn, .bool c.vv] (fun _ _ => True) (info_size Yba.inf47) (by rfl) (by rfl) (Row.alloc _ _ _ (fun _ _ => True) (fun _ _ _ => trivial)) (by rfl) ?_
          intro W4 ht4 hp4
          have hb4 : Below W3.heap.size W3 W4 := Below.trans ((Below.refl _ _).alloc (Nat.le_refl _) _) ht4.below
          have hs4 : W4.heap.size = W3.heap.size + 1 := by rw [ht4.size]; simp
          have x0 : W4.cell? ⟨W3.heap.size, 0, none⟩ = some (.string c.key) := cell_row1 hp4 (i := 0) (by show 0 < 3; omega)
          have x1 : W4.cell? ⟨W3.heap.size, 1, none⟩ = some (.int .i64 c.vn) := cell_row1 hp4 (i := 1) (by show 1 < 3; omega)
          have x2 : W4.cell? ⟨W3.heap.size, 2, none⟩ = some (.bool c.vv) := cell_row1 hp4 (i := 2) (by show 2 < 3; omega)
          have hM4 : MapInv W4 (w.heap.size + 1) (w.heap.size + 2) es clock (G1 cs k) := HM3.out.keptB fun b hb _ => hb4.block b hb
          have HB4 : Hid (Below w.heap.size w W4) := HB3.out.trans (hb4.mono (by omega))
          have HT4 : Hid (Row W4 w.heap.size 4 n (fun j v => v = .bool (decide (j < k + 1 ∧ (cs j).oc = 1)))) := HT3.out.later hb4 (by omega)
          obtain ⟨v, st, V2, v', V3, V4, es', clock', r2, r3, r4, hM5, hk5, hsum5⟩ := group_step hM4 (by omega) (by omega) (kvOf c) k (by have := G1_len cs k (kvOf c); omega) 3 48
          have HM5 : Hid (MapInv V4 (w.heap.size + 1) (w.heap.size + 2) es' clock' (G1 cs (k + 1))) := by rw [HG.out]; exact hM5
          have HB5 : Hid (Below w.heap.size w V4) := HB4.out.trans ⟨hk5.os, hk5.tape, hk5.output, hk5.size, fun b hb => hk5.low b (by omega) (by omega)⟩
          have HT5 : Hid (Row V4 w.heap.size 4 n (fun j v => v = .bool (decide (j < k + 1 ∧ (cs j).oc = 1)))) := HT4.out.of_heap (hk5.low _ (by omega) (by omega))
          have hs5 : w.heap.size + 2 ≤ V4.heap.size := by have := hk5.size; omega
          unfold kvOf kvV at r2
          simp only at r2
          clear ht4 hp4 hb4 hM4 hM5 hk5 g1 g2 g3 g4 g7
          rw [hs4] at r3
          go_wp2_with (rw [ap_guard]; refine law_append (by rfl) (by rfl) r3 ?_)
          go_roundw
          case rel => exact ⟨k + 1, by omega, by go_num, HB5.out, hs5, HT5.out, es', clock', HM5.out, by omega⟩
          case measure => simp [intOf]; omega
      · have HG : Hid (G1 cs (k + 1) = G1 cs k) := by
          show G1 cs (k + 1) = G1 cs k
          rw [G1, if_neg (by rw [hc]; simp [unkB, ho])]
        have hob : (c.oc == 3) = false := by simp [ho]
        go_wp2
        go_roundw
        case rel => exact ⟨k + 1, by omega, by go_num, HB3.out, by omega, HT3.out, es, clock, by rw [HG.out]; exact HM3.out, by omega⟩
        case measure => simp [intOf]; omega
    · obtain rfl : k = n := by omega
      have hlt' : ¬ (k : Int) < (k : Int) := by omega
      cases es with
      | nil =>
        have hL : Hid (Least k cs (fun j => decide (j < k ∧ (cs j).oc = 1))) := least_ok fun kk => by
          cases hg : G1 cs k kk with
          | nil => rfl
          | cons a l =>
            obtain ⟨i, e, he, _⟩ := hM.full kk (by rw [hg]; simp)
            simp at he
        have hlen : (Builtin.len_ #[45] 3 #[.map (some (w.heap.size + 1))]).run Yba.prog wr = .ok (.int .i64 0) wr := run_len 3 hM.here
        have HB : Hid (Below w.heap.size w wr) := hb
        have HT : Hid (Row wr w.heap.size 4 k (fun j v => v = .bool (decide (j < k ∧ (cs j).oc = 1)))) := hT
        clear hb hT hM
        go_wp2
        go_ret
        exact ⟨w.heap.size, _, rfl, HB.out, Nat.le_refl _, hL.out, HT.out⟩
      | cons e0 es0 =>
        have hlen : (Builtin.len_ #[45] 3 #[.map (some (w.heap.size + 1))]).run Yba.prog wr = .ok (.int .i64 ((es0.length + 1 : Nat) : Int)) wr := run_len 3 hM.here
        obtain ⟨l0, hl0⟩ : ∃ l0 : Int, ((es0.length + 1 : Nat) : Int) = l0 := ⟨_, rfl⟩
        have hl1 : ¬ l0 = 0 := by omega
        have hl2 : (l0 == 0) = false := by simp [hl1]
        rw [hl0] at hlen
        have HB : Hid (Below w.heap.size w wr) := hb
        have HT : Hid (Row wr w.heap.size 4 k (fun j v => v = .bool (decide (j < k ∧ (cs j).oc = 1)))) := hT
        have HM : Hid (MapInv wr (w.heap.size + 1) (w.heap.size + 2) (e0 :: es0) clock (G1 cs k)) := hM
        clear hb hT hM hl0
        go_wp2
        go_loopw [8, 59] (fun tv iv wx => ∃ (i : Nat) (es : List Ent) (clock : Nat) (G : KV → List Nat) (T : Nat → Bool), i ≤ k ∧ entSum es ≤ k ∧ iv = .int .i64 i ∧ Below w.heap.size w wx ∧ w.heap.size + 2 ≤ wx.heap.size ∧ Row wx w.heap.size 4 k (fun j v => v = .bool (T j)) ∧ MapInv wx (w.heap.size + 1) (w.heap.size + 2) es clock G ∧
            wx.ownsRow (w.heap.size + 2) 3 1 tv 0 [] ∧ (∀ (j : Nat) (a : Ent), es[j]? = some a → tv.ownBlock = none ∨ a.v.ownBlock ≠ tv.ownBlock) ∧ Phase k cs i [] G T) (fun _ iv _ => k - (intOf iv).toNat)
        case atStart => exact ⟨0, _, _, _, _, Nat.zero_le _, hsum, rfl, HB.out, hsz, HT.out, HM.out, World.ownsRow_nil _ _ _ _, fun _ _ _ => .inl rfl, Phase.start⟩
        case round =>
          obtain ⟨i, es, clock, G, T, hi, hsum2, rfl, hb, hsz, hT, hM, hown, hdis, hph⟩ := hrel
          by_cases hlt : i < k
          · have hlt' : (i : Int) < (k : Int) := by omega
            have t0 : wr.cell? ⟨w.heap.size, i, none⟩ = some (.bool (T i)) := cell_row1 (F := fun j => .bool (T j)) hT hlt
            have HB : Hid (Below w.heap.size w wr) := hb
            have HT : Hid (Row wr w.heap.size 4 k (fun j v => v = .bool (T j))) := hT
            have HM : Hid (MapInv wr (w.heap.size + 1) (w.heap.size + 2) es clock G) := hM
            have HO : Hid (wr.ownsRow (w.heap.size + 2) 3 1 u8 0 []) := hown
            have HDi : Hid (∀ (j : Nat) (a : Ent), es[j]? = some a → u8.ownBlock = none ∨ a.v.ownBlock ≠ u8.ownBlock) := hdis
            have HPh : Hid (Phase k cs i [] G T) := hph
            clear hb hT hM hown hdis hph
            cases hTi : T i with
            | false =>
              rw [hTi] at t0
              have HPn : Hid (Phase k cs (i + 1) [] G T) := HPh.out.pass hTi
              obtain ⟨sp, cp, hu8⟩ : ∃ (sp : Option Addr) (cp : Nat), u8 = .slice sp 0 cp := by
                rcases HO.out.2 with ⟨h, _⟩ | ⟨g, cap, cur, h, _⟩
                · exact ⟨none, 0, h⟩
                · exact ⟨_, cap, h⟩
              subst hu8
              have hwi : IntKind.i64.wrap ((i : Int) + 1) = (i : Int) + 1 := by rw [IntKind.wrap_i64]; omega
              go_wp2
              go_loopw [8] (fun v wx => v = .slice sp 0 cp ∧ wx = wr) (fun _ _ => 0)
              case atStart => exact ⟨rfl, rfl⟩
              case round =>
                obtain ⟨rfl, rfl⟩ := hrel
                go_wp2
                go_roundw
                case rel => exact ⟨i + 1, es, clock, G, T, by omega, hsum2, by go_num, HB.out, hsz, HT.out, HM.out, HO.out, HDi.out, HPn.out⟩
                case measure => simp [intOf]; omega
            | true =>
              rw [hTi] at t0
              have HPn : Hid (Phase k cs (i + 1) [i] G T) := HPh.out.push hlt hTi
              obtain ⟨sp, cp, hu8⟩ : ∃ (sp : Option Addr) (cp : Nat), u8 = .slice sp 0 cp := by
                rcases HO.out.2 with ⟨h, _⟩ | ⟨g, cap, cur, h, _⟩
                · exact ⟨none, 0, h⟩
                · exact ⟨_, cap, h⟩
              subst hu8
              go_wp2_with (rw [ap_guard])
              obtain ⟨v1, V1, r1, hM1, hO1, hA1, hK1, hH1, hS1, hl1'⟩ := stack_push HM.out (L := []) HO.out HDi.out (by omega) hsz (by simp) i 3 48
              refine law_append (by rfl) (by rfl) r1 ?_
              have HB1 : Hid (Below w.heap.size w V1) := HB.out.trans ⟨hK1.os, hK1.tape, hK1.output, hK1.size, fun b hb => hK1.low b (by omega) (by omega)⟩
              have HT1 : Hid (Row V1 w.heap.size 4 k (fun j v => v = .bool (T j))) := HT.out.of_heap (hK1.low _ (by omega) (by omega))
              have HM1 : Hid (MapInv V1 (w.heap.size + 1) (w.heap.size + 2) es clock G) := hM1
              have HO1 : Hid (V1.ownsRow (w.heap.size + 2) 3 1 v1 [i].length (ints [i])) := hO1
              have HA1 : Hid (Apart es v1) := hA1
              have hs1 : w.heap.size + 2 ≤ V1.heap.size := by have := hK1.size; omega
              clear r1 hM1 hO1 hA1 hK1 hH1 hS1 hl1' HB HT HM HO HDi HPh t0
              go_wp2
              go_loopw [8] (fun tv wx => ∃ (L : List Nat) (es : List Ent) (clock : Nat) (G : KV → List Nat) (T : Nat → Bool), Below w.heap.size w wx ∧ w.heap.size + 2 ≤ wx.heap.size ∧ Row wx w.heap.size 4 k (fun j v => v = .bool (T j)) ∧ MapInv wx (w.heap.size + 1) (w.heap.size + 2) es clock G ∧
                wx.ownsRow (w.heap.size + 2) 3 1 tv L.length (ints L) ∧ Apart es tv ∧ Phase k cs (i + 1) L G T ∧ L.length + entSum es ≤ k + 1 ∧ entSum es ≤ k) (fun tv wx => sliceLen tv + mapSum wx (w.heap.size + 1))
              case atStart => exact ⟨[i], es, clock, G, T, HB1.out, hs1, HT1.out, HM1.out, HO1.out, HA1.out, HPn.out, by show 1 + entSum es ≤ k + 1; omega, hsum2⟩
              case round =>
                clear HB1 HT1 HM1 HO1 HA1 HPn hs1
                obtain ⟨L, es, clock, G, T, hb, hsz, hT, hM, hown, hdis, hph, hsum3, hsum4⟩ := hrel
                have hwi : IntKind.i64.wrap ((i : Int) + 1) = (i : Int) + 1 := by rw [IntKind.wrap_i64]; omega
                rcases List.eq_nil_or_concat L with rfl | ⟨L', c, hLc⟩
                · have HB : Hid (Below w.heap.size w wr) := hb
                  have HT : Hid (Row wr w.heap.size 4 k (fun j v => v = .bool (T j))) := hT
                  have HM : Hid (MapInv wr (w.heap.size + 1) (w.heap.size + 2) es clock G) := hM
                  have HO : Hid (wr.ownsRow (w.heap.size + 2) 3 1 u8 0 []) := hown
                  have HA : Hid (Apart es u8) := hdis
                  have HP : Hid (Phase k cs (i + 1) [] G T) := hph
                  clear hb hT hM hown hdis hph
                  obtain ⟨sp, cp, hu8⟩ : ∃ (sp : Option Addr) (cp : Nat), u8 = .slice sp 0 cp := by
                    rcases HO.out.2 with ⟨h, _⟩ | ⟨g, cap, cur, h, _⟩
                    · exact ⟨none, 0, h⟩
                    · exact ⟨_, cap, h⟩
                  subst hu8
                  go_wp2
                  go_roundw
                  case rel => exact ⟨i + 1, es, clock, G, T, by omega, hsum4, by go_num, HB.out, hsz, HT.out, HM.out, HO.out, HA.out, HP.out⟩
                  case measure => simp [intOf]; omega
                · have hLc : L = L' ++ [c] := by simpa using hLc
                  subst hLc
                  obtain ⟨g, cap, rfl, hgb, hgs, hcap, t0, hpop⟩ := own_top hown
                  obtain ⟨l, hl⟩ : ∃ l, L'.length = l := ⟨_, rfl⟩
                  have hlen1 : (L' ++ [c]).length = l + 1 := by simp [hl]
                  rw [hlen1] at hsum3
                  rw [hl] at hcap t0 hpop hdis ⊢
                  obtain ⟨hck, hTc⟩ := hph.stack c (by simp)
                  obtain ⟨d, hd⟩ : ∃ d, cs c = d := ⟨_, rfl⟩
                  have q0 : wr.cell? ⟨B, c * 12, none⟩ = some (.string procS) := by have := cell_later hb (cells12 HCS.out hck 0 (by omega)); rw [hd] at this; exact this
                  have q1 : wr.cell? ⟨B, c * 12 + 1, none⟩ = some (.int .u8 d.f) := by have := cell_later hb (cells12 HCS.out hck 1 (by omega)); rw [hd] at this; exact this
                  have q2 : wr.cell? ⟨B, c * 12 + 2, none⟩ = some (.string d.key) := by have := cell_later hb (cells12 HCS.out hck 2 (by omega)); rw [hd] at this; exact this
                  have q3 : wr.cell? ⟨B, c * 12 + 3, none⟩ = some (.int .i64 d.vn) := by have := cell_later hb (cells12 HCS.out hck 3 (by omega)); rw [hd] at this; exact this
                  have q4 : wr.cell? ⟨B, c * 12 + 4, none⟩ = some (.bool d.vv) := by have := cell_later hb (cells12 HCS.out hck 4 (by omega)); rw [hd] at this; exact this
                  have q5 : wr.cell? ⟨B, c * 12 + 5, none⟩ = some (.int .i64 d.en) := by have := cell_later hb (cells12 HCS.out hck 5 (by omega)); rw [hd] at this; exact this
                  have q6 : wr.cell? ⟨B, c * 12 + 6, none⟩ = some (.bool d.ev) := by have := cell_later hb (cells12 HCS.out hck 6 (by omega)); rw [hd] at this; exact this
                  have q7 : wr.cell? ⟨B, c * 12 + 7, none⟩ = some (.int .u8 d.oc) := by have := cell_later hb (cells12 HCS.out hck 7 (by omega)); rw [hd] at this; exact this
                  have q8 : wr.cell? ⟨B, c * 12 + 8, none⟩ = some (.int .i64 0) := by have := cell_later hb (cells12 HCS.out hck 8 (by omega)); rw [hd] at this; exact this
                  have q9 : wr.cell? ⟨B, c * 12 + 9, none⟩ = some (.int .i64 0) := by have := cell_later hb (cells12 HCS.out hck 9 (by omega)); rw [hd] at this; exact this
                  have q10 : wr.cell? ⟨B, c * 12 + 10, none⟩ = some (.int .i64 0) := by have := cell_later hb (cells12 HCS.out hck 10 (by omega)); rw [hd] at this; exact this
                  have q11 : wr.cell? ⟨B, c * 12 + 11, none⟩ = some (.int .i64 0) := by have := cell_later hb (cells12 HCS.out hck 11 (by omega)); rw [hd] at this; exact this
                  have HBR : Hid (Below w.heap.size w wr) := hb
                  have HTR : Hid (Row wr w.heap.size 4 k (fun j v => v = .bool (T j))) := hT
                  have HMR : Hid (MapInv wr (w.heap.size + 1) (w.heap.size + 2) es clock G) := hM
                  have HO : Hid (wr.ownsRow (w.heap.size + 2) 3 1 (.slice (some ⟨g, 0, none⟩) l cap) l (ints L')) := hpop
                  have HA : Hid (Apart es (.slice (some ⟨g, 0, none⟩) l cap)) := hdis
                  have HP : Hid (Phase k cs (i + 1) (L' ++ [c]) G T) := hph
                  have hms : mapSum wr (w.heap.size + 1) = entSum es := mapSum_at hM.here
                  clear hb hT hM hown hdis hph hpop
                  have hck' : (c : Int) < (k : Int) := by omega
                  have hwl : IntKind.i64.wrap (l : Int) = (l : Int) := by rw [IntKind.wrap_i64]; omega
                  go_wp2_with (rw [st_guard])
                  refine law_store 40 40 wr.heap.size (callCells d) (fun _ _ => True) (info_size Yba.inf40) (by rfl) (by rfl) (Row.alloc _ _ _ (fun _ _ => True) (fun _ _ _ => trivial)) (by rfl) ?_
                  intro W2 ht2 hp2
                  obtain ⟨f, hf⟩ : ∃ f, wr.heap.size = f := ⟨_, rfl⟩
                  have hb2 : Below f wr W2 := by
                    rw [← hf]
                    exact Below.trans ((Below.refl _ _).alloc (Nat.le_refl _) _) ht2.below
                  rw [hf] at hp2 hsz hgs
                  have hs2 : W2.heap.size = f + 1 := by rw [ht2.size]; simp; omega
                  have g1 : W2.cell? ⟨f, 1, none⟩ = some (.int .u8 d.f) := cell_row1 hp2 (i := 1) (by show 1 < 12; omega)
                  have HF2 : Hid (Row W2 f 40 12 (fun i v => v = (callCells d).getD i undef)) := hp2
                  have HB2 : Hid (Below w.heap.size w W2) := HBR.out.trans (hb2.mono (by omega))
                  have HT2 : Hid (Row W2 w.heap.size 4 k (fun j v => v = .bool (T j))) := HTR.out.later hb2 (by omega)
                  have HM2 : Hid (MapInv W2 (w.heap.size + 1) (w.heap.size + 2) es clock G) := HMR.out.keptB fun b hb _ => hb2.block b (by omega)
                  have HO2 : Hid (W2.ownsRow (w.heap.size + 2) 3 1 (.slice (some ⟨g, 0, none⟩) l cap) l (ints L')) := own_same HO.out fun g' hg' => hb2.block g' (by simp only [Value.ownBlock, Option.some.injEq] at hg'; omega)
                  clear ht2 hp2 hb2 q0 q1 q2 q3 q4 q5 q6 q7 q8 q9 q10 q11 HBR HTR HMR HO t0
                  rw [hf]
                  by_cases hf2 : d.f = 2
                  · rw [hf2] at g1
                    have HP2 : Hid (Phase k cs (i + 1) L' G T) := HP.out.pop (by rw [hd]; exact hf2)
                    have HS2 : Hid (mapSum W2 (w.heap.size + 1) = entSum es) := mapSum_at HM2.out.here
                    go_wp2
                    go_roundw
                    case rel => exact ⟨L', es, clock, G, T, HB2.out, by omega, HT2.out, HM2.out, by rw [hl]; exact HO2.out, HA.out, HP2.out, by omega, hsum4⟩
                    case measure =>
                      rw [HS2.out, hms]
                      simp only [sliceLen]
                      omega
                  · have hfb : (d.f == 2) = false := by simp [hf2]
                    go_wp2
                    refine wp_region_obs3 (L := 6) (R := R23 f d) (C := fun b a w' => Below (f + 1) W2 w' ∧ (b = true → ∃ h, f + 1 ≤ h ∧ a.tmps.getD 11 undef = .pointer (some ⟨h, 0, none⟩) ∧ Row w' h 47 3 (fun i v => v = (needL d).getD i undef)))
                      (by kernel_rfl) (by kernel_rfl) ?start ⟨?o0, ?o1, ?o2, ?o3, ?o4, ?o5, ?o6, trivial⟩ ?fin
                    case start => exact ⟨(Below.refl _ _).drew, fun e => by cases e⟩
                    case o0 => exact fun b a w' hp hbf hC => lift3_same (LUpon_field40 rfl (hp.rest 10 (by kernel_rfl)) (.inr (.inl ⟨rfl, rfl⟩)) rfl) rfl ⟨hC.1, fun e => by rw [hbf (by kernel_rfl)] at e; cases e⟩
                    case o1 => exact fun b a w' hp hbf hC => lift3_same (LUpon_load9 rfl (hp.on ⟨0, .data⟩ (by simp) rfl _ 91 rfl rfl) (cell_row1 (HF2.out.later hC.1 (by omega)) (i := 2) (by omega)) rfl) rfl ⟨hC.1, fun e => by rw [hbf (by kernel_rfl)] at e; cases e⟩
                    case o2 => exact fun b a w' hp hbf hC => lift3_same (LUpon_load40 rfl (hp.rest 10 (by kernel_rfl)) (HF2.out.later hC.1 (by omega)) rfl) rfl ⟨hC.1, fun e => by rw [hbf (by kernel_rfl)] at e; cases e⟩
                    case o3 => exact fun b a w' hp hbf hC => lift3 (D := fun w'' => Below w'.heap.size w' w'') (S := fun v => v = .agg #[.int .i64 (needKv d).n, .bool (needKv d).b]) (LUpon_call15 (hp.on ⟨2, .data⟩ (by simp) rfl _ 93 rfl rfl) ((needs_any d w').mono fun e w'' ⟨he, hw⟩ => ⟨_, he, rfl, hw⟩)) fun v w'' hv hw => ⟨hv, ⟨hC.1.trans (hw.mono (by have := hC.1.size; omega)), fun e => by rw [hbf (by kernel_rfl)] at e; cases e⟩, keep23 hw⟩
                    case o4 => exact fun b a w' hp hbf hC => lift3_same (LUpon_build47 rfl (hp.on ⟨1, .data⟩ (by simp) rfl _ 92 rfl rfl) (hp.on ⟨3, .data⟩ (by simp) rfl _ 94 rfl rfl) rfl) rfl ⟨hC.1, fun e => by rw [hbf (by kernel_rfl)] at e; cases e⟩
                    case o5 =>
                      intro b a w' hp hbf hC
                      have hsz' := hC.1.size
                      refine lift3 (D := fun w'' => w'' = w'.alloc (.cells #[.string ⟨#[]⟩, .int .i64 0, .bool false] 47)) (S := fun v => v = .pointer (some ⟨w'.heap.size, 0, none⟩)) (LUpon_alloc47 rfl rfl) fun v w'' hv hw => ?_
                      subst hv hw
                      refine ⟨⟨w'.heap.size, rfl, by omega, Row.alloc _ _ _ _ (fun _ _ _ => trivial)⟩, ⟨hC.1.alloc (by omega) _, fun e => by rw [hbf (by kernel_rfl)] at e; cases e⟩, keep23 ((Below.refl _ _).alloc (Nat.le_refl _) _)⟩
                    case o6 =>
                      intro b a w' hp hbf hC
                      obtain ⟨h, h11, hh, hrow⟩ : R23 f d 5 (a.tmps.getD 11 undef) w' := hp.on ⟨5, .data⟩ (by simp) rfl _ 11 rfl rfl
                      have ht := Turn.sets h (needL d) 0 w'
                      refine lift3 (D := fun w'' => w'' = w'.setCells h 0 (needL d)) (S := fun v => v = undef) (LUpon_store (cs := needL d) (info_size Yba.inf47) (by rfl) (hrow.there 0 3 (by omega)) h11 (hp.on ⟨4, .data⟩ (by simp) rfl _ 95 rfl rfl) rfl rfl) fun v w'' hv hw => ?_
                      subst hv hw
                      refine ⟨rfl, ⟨hC.1.trans (ht.below.mono hh), fun _ => ⟨h, hh, h11, ?_⟩⟩, ?_⟩
                      · refine (Row.sets (needL d) 0 w' _ hrow).mono fun i v hi hf => ?_
                        have := hf.1 (Nat.zero_le _) (by show i < 0 + 3; omega)
                        simpa using this
                      · exact keep23_set
                    case fin =>
                      intro a w' he hC
                      obtain ⟨hb3, hC2⟩ := hC
                      obtain ⟨h, hh, h11, hrow⟩ := hC2 rfl
                      obtain rfl := he.ends.act (c := 6) (by kernel_rfl) (lst23 f d (.pointer (some ⟨h, 0, none⟩))) (fun j o dd hj hd => by
                        have hr := he.done j o dd hj hd
                        rcases j with _ | _ | _ | _ | _ | _ | _ | j
                        · exact hr
                        · exact hr
                        · exact hr
                        · exact hr
                        · exact hr
                        · simp at hj; subst hj; simp at hd; subst hd; exact h11
                        · exact hr
                        · simp at hj)
                      clear he h11 hC2
                      have hkey : (needKv d).key = d.key := by unfold needKv; split <;> rfl
                      have HB3 : Hid (Below w.heap.size w w') := HB2.out.trans (hb3.mono (by omega))
                      have HT3 : Hid (Row w' w.heap.size 4 k (fun j v => v = .bool (T j))) := HT2.out.later hb3 (by omega)
                      have HM3 : Hid (MapInv w' (w.heap.size + 1) (w.heap.size + 2) es clock G) := HM2.out.keptB fun b hb _ => hb3.block b (by omega)
                      have HO3 : Hid (w'.ownsRow (w.heap.size + 2) 3 1 (.slice (some ⟨g, 0, none⟩) l cap) l (ints L')) := own_same HO2.out fun g' hg' => hb3.block g' (by simp only [Value.ownBlock, Option.some.injEq] at hg'; omega)
                      have hs3 : f + 1 ≤ w'.heap.size := by have := hb3.size; omega
                      unfold needL at hrow
                      rw [← hkey] at hrow
                      have HPt : Hid (Phase k cs (i + 1) (L' ++ G (needKv d)) (dropG G (needKv d)) (fun j => T j || decide (j ∈ G (needKv d)))) := by
                        have := HP.out.take (by rw [hd]; exact hf2)
                        rw [hd] at this
                        exact this
                      have HPm : Hid (∀ e, e ∈ G (needKv d) → e < k) := fun e he => (HP.out.mem _ e he).1
                      obtain ⟨v, hlook, hvown, hvblk⟩ := HM3.out.look (needKv d)
                      obtain ⟨_, es1, _, _, _, _, hsumd⟩ := HM3.out.drop (by omega) (needKv d) 0
                      obtain ⟨sp, cp, rfl, hsp⟩ := own_form hvown
                      obtain ⟨Gk, hGk⟩ : ∃ Gk, G (needKv d) = Gk := ⟨_, rfl⟩
                      obtain ⟨m, hm⟩ : ∃ m, Gk.length = m := ⟨_, rfl⟩
                      rw [hGk, hm] at hvown
                      rw [hGk, hm] at hlook hsp hsumd hvblk
                      have HV3 : Hid (w'.ownsRow (w.heap.size + 2) 3 1 (.slice sp m cp) m (ints Gk)) := hvown
                      have HVB : Hid ((Value.slice sp m cp).ownBlock = none ∨ ∃ (i : Nat) (a : Ent), es[i]? = some a ∧ a.v = .slice sp m cp) := hvblk
                      obtain ⟨kk, hkk⟩ : ∃ kk, needKv d = kk := ⟨_, rfl⟩
                      rw [hkk] at hrow HPt HPm hlook hGk
                      have HR3 : Hid (Row w' h 47 3 (fun i v => v = [Value.string kk.key, .int .i64 kk.n, .bool kk.b].getD i undef)) := hrow
                      have x0 : w'.cell? ⟨h, 0, none⟩ = some (.string kk.key) := cell_row1 hrow (i := 0) (by omega)
                      have x1 : w'.cell? ⟨h, 1, none⟩ = some (.int .i64 kk.n) := cell_row1 hrow (i := 1) (by omega)
                      have x2 : w'.cell? ⟨h, 2, none⟩ = some (.bool kk.b) := cell_row1 hrow (i := 2) (by omega)
                      unfold kvV at hlook
                      clear hkk hkey hrow hvown hvblk hb3 HB2 HT2 HM2 HO2 HF2 g1
                      simp only [putAll, lst23, List.headD, List.tail, Act.put, List.setIfInBounds_toArray, List.set_cons_succ, List.set_cons_zero]
                      go_wp2
                      clear hlook x0 x1 x2
                      go_loopw [8, 100] (fun tv iv wx => ∃ p : Nat, p ≤ m ∧ iv = .int .i64 p ∧ Below w.heap.size w wx ∧ f + 1 ≤ wx.heap.size ∧ Row wx w.heap.size 4 k (fun j v => v = .bool (T j || decide (j ∈ Gk.take p))) ∧ MapInv wx (w.heap.size + 1) (w.heap.size + 2) es clock G ∧
                        wx.ownsRow (w.heap.size + 2) 3 1 tv (L' ++ Gk.take p).length (ints (L' ++ Gk.take p)) ∧ Apart es tv ∧ wx.ownsRow (w.heap.size + 2) 3 1 (.slice sp m cp) m (ints Gk) ∧ Row wx h 47 3 (fun i v => v = [Value.string kk.key, .int .i64 kk.n, .bool kk.b].getD i undef)) (fun _ iv _ => m - (intOf iv).toNat)
                      case atStart => exact ⟨0, Nat.zero_le _, rfl, HB3.out, hs3, HT3.out.mono fun j v _ hv => by simpa using hv, HM3.out, by simpa [hl] using HO3.out, HA.out, HV3.out, HR3.out⟩
                      case round =>
                        clear HB3 HT3 HM3 HO3 HA HV3 HR3
                        obtain ⟨p, hp, rfl, hb, hsz4, hT, hM, hown, hdis, hvo, hrow⟩ := hrel
                        by_cases hlt2 : p < m
                        · obtain ⟨gv, rfl⟩ := hsp (by omega)
                          obtain ⟨e, he⟩ : ∃ e, Gk[p]? = some e := ⟨Gk[p]'(by omega), by simp [hm, hlt2]⟩
                          have hek : e < k := HPm.out e (by rw [hGk]; exact List.mem_of_getElem? he)
                          have hek' : (e : Int) < (k : Int) := by omega
                          have hlt2' : (p : Int) < (m : Int) := by omega
                          have t0 : wr.cell? ⟨gv, p, none⟩ = some (.int .i64 (e : Int)) := by
                            rw [hvo.cellAt p (by omega)]
                            simp [ints, he]
                          have htake : Gk.take (p + 1) = Gk.take p ++ [e] := by
                            rw [List.take_add_one, he]; rfl
                          have htl : (L' ++ Gk.take p).length ≤ 4096 := by simp [hm, hl]; omega
                          have HB : Hid (Below w.heap.size w wr) := hb
                          have HT : Hid (Row wr w.heap.size 4 k (fun j v => v = .bool (T j || decide (j ∈ Gk.take p)))) := hT
                          have HM : Hid (MapInv wr (w.heap.size + 1) (w.heap.size + 2) es clock G) := hM
                          have HO : Hid (wr.ownsRow (w.heap.size + 2) 3 1 u8 (L' ++ Gk.take p).length (ints (L' ++ Gk.take p))) := hown
                          have HA : Hid (Apart es u8) := hdis
                          have HV : Hid (wr.ownsRow (w.heap.size + 2) 3 1 (.slice (some ⟨gv, 0, none⟩) m cp) m (ints Gk)) := hvo
                          have HR : Hid (Row wr h 47 3 (fun i v => v = [Value.string kk.key, .int .i64 kk.n, .bool kk.b].getD i undef)) := hrow
                          clear hb hT hM hown hdis hvo hrow
                          have hwp : IntKind.i64.wrap ((p : Int) + 1) = (p : Int) + 1 := by rw [IntKind.wrap_i64]; omega
                          go_wp2_with (rw [st_guard])
                          refine law_bool 4 w.heap.size e k true _ (by rfl) (by rfl) HT.out hek ?_
                          intro W3 ht3 hp3
                          have hM4 : MapInv W3 (w.heap.size + 1) (w.heap.size + 2) es clock G := HM.out.keptB fun b hb hbb => ht3.other b (by omega)
                          have hO4 : W3.ownsRow (w.heap.size + 2) 3 1 u8 (L' ++ Gk.take p).length (ints (L' ++ Gk.take p)) := own_same HO.out fun g' hg' => ht3.other g' (by have := (HO.out.lt g' hg').1; omega)
                          have hV4 : W3.ownsRow (w.heap.size + 2) 3 1 (.slice (some ⟨gv, 0, none⟩) m cp) m (ints Gk) := own_same HV.out fun g' hg' => ht3.other g' (by have := (HV.out.lt g' hg').1; omega)
                          have hR4 : Row W3 h 47 3 (fun i v => v = [Value.string kk.key, .int .i64 kk.n, .bool kk.b].getD i undef) := ht3.row HR.out (by omega)
                          have hs4 : W3.heap.size = wr.heap.size := ht3.size
                          have hgv := HVB.out
                          obtain ⟨v1, V1, r1, hM5, hO5, hA5, hK5, hH5, hS5, hl5⟩ := stack_push hM4 hO4 HA.out (by omega) (by omega) htl e 3 48
                          have HB5 : Hid (Below w.heap.size w V1) := (HB.out.trans ht3.below).trans ⟨hK5.os, hK5.tape, hK5.output, hK5.size, fun b hb => hK5.low b (by omega) (by omega)⟩
                          have HT5 : Hid (Row V1 w.heap.size 4 k (fun j v => v = .bool (T j || decide (j ∈ Gk.take (p + 1))))) := (hp3.of_heap (hK5.low _ (by omega) (by omega))).mono fun j v _ hv => by
                            rw [htake]
                            by_cases ej : j = e
                            · rw [if_pos ej] at hv
                              rw [hv, ej]; simp
                            · rw [if_neg ej] at hv
                              rw [hv]; simp [ej]
                          have HM5 : Hid (MapInv V1 (w.heap.size + 1) (w.heap.size + 2) es clock G) := hM5
                          have HO5 : Hid (V1.ownsRow (w.heap.size + 2) 3 1 v1 (L' ++ Gk.take (p + 1)).length (ints (L' ++ Gk.take (p + 1)))) := by
                            show V1.ownsRow (w.heap.size + 2) 3 1 v1 (L' ++ Gk.take (p + 1)).length (ints (L' ++ Gk.take (p + 1)))
                            rw [htake, ← List.append_assoc]
                            exact hO5
                          have HA5 : Hid (Apart es v1) := hA5
                          have HV5 : Hid (V1.ownsRow (w.heap.size + 2) 3 1 (.slice (some ⟨gv, 0, none⟩) m cp) m (ints Gk)) := own_same hV4 fun g' hg' => hS5 g' (hV4.lt g' hg').2 (by
                            rcases hgv with h0 | ⟨i', a', ha', hv'⟩
                            · rw [h0] at hg'; cases hg'
                            · rcases HA.out i' a' ha' with h1 | h1
                              · rw [h1]; simp
                              · rw [hv', hg'] at h1; exact h1)
                          have HR5 : Hid (Row V1 h 47 3 (fun i v => v = [Value.string kk.key, .int .i64 kk.n, .bool kk.b].getD i undef)) := hR4.of_heap (hS5 h hR4.lt (row_apart hR4 hO4))
                          have hs5 : f + 1 ≤ V1.heap.size := by have := hK5.size; omega
                          clear hs4 ht3 hp3 hM4 hO4 hV4 hR4 hM5 hO5 hA5 hK5 hH5 hS5 hl5 hgv HB HT HM HO HA HV HR t0
                          go_wp2_with (rw [ap_guard]; refine law_append (by rfl) (by rfl) r1 ?_)
                          go_roundw
                          case rel =>
                            exact ⟨p + 1, by omega, by go_num, HB5.out, hs5, HT5.out, HM5.out, HO5.out, HA5.out, HV5.out, HR5.out⟩
                          case measure => simp [intOf]; omega
                        · obtain rfl : p = m := by omega
                          have hlt2' : ¬ (p : Int) < (p : Int) := by omega
                          have hfull : Gk.take p = Gk := List.take_of_length_le (by omega)
                          rw [hfull] at hT hown
                          have x0 : wr.cell? ⟨h, 0, none⟩ = some (.string kk.key) := cell_row1 hrow (i := 0) (by omega)
                          have x1 : wr.cell? ⟨h, 1, none⟩ = some (.int .i64 kk.n) := cell_row1 hrow (i := 1) (by omega)
                          have x2 : wr.cell? ⟨h, 2, none⟩ = some (.bool kk.b) := cell_row1 hrow (i := 2) (by omega)
                          obtain ⟨W6, es6, hrun6, ht6, hM6, hsub6, hsum6⟩ := hM.drop (by omega) kk 0
                          unfold kvV at hrun6
                          rw [hGk, hm] at hsum6
                          have HB6 : Hid (Below w.heap.size w W6) := hb.trans (ht6.below.mono (by omega))
                          have HT6 : Hid (Row W6 w.heap.size 4 k (fun j v => v = .bool (T j || decide (j ∈ Gk)))) := ht6.row hT (by omega)
                          have HM6 : Hid (MapInv W6 (w.heap.size + 1) (w.heap.size + 2) es6 clock (dropG G kk)) := hM6
                          have HO6 : Hid (W6.ownsRow (w.heap.size + 2) 3 1 u8 (L' ++ Gk).length (ints (L' ++ Gk))) := own_same hown fun g' hg' => ht6.other g' (by have := (hown.lt g' hg').1; omega)
                          have HA6 : Hid (Apart es6 u8) := fun j a ha => by
                            obtain ⟨i', hi'⟩ := hsub6 j a ha
                            exact hdis i' a hi'
                          have HS6 : Hid (mapSum W6 (w.heap.size + 1) = entSum es6) := mapSum_at hM6.here
                          have HL6 : Hid (sliceLen u8 = (L' ++ Gk).length) := own_len hown
                          have hs6 : f + 1 ≤ W6.heap.size := by rw [ht6.size]; exact hsz4
                          rw [hGk] at HPt
                          clear hb hT hM hown hdis hvo hrow ht6 hM6 hsub6
                          go_wp2
                          go_roundw
                          case rel => exact ⟨L' ++ Gk, es6, clock, dropG G kk, _, HB6.out, by omega, HT6.out, HM6.out, HO6.out, HA6.out, HPt.out, by simp [hl, hm]; omega, by omega⟩
                          case measure =>
                            rw [HS6.out, HL6.out, hms]
                            simp [sliceLen, hl, hm]
                            omega
          · obtain rfl : i = k := by omega
            have hlt' : ¬ (i : Int) < (i : Int) := by omega
            have HL : Hid (Least i cs T) := hph.finish
            have HB : Hid (Below w.heap.size w wr) := hb
            have HT : Hid (Row wr w.heap.size 4 i (fun j v => v = .bool (T j))) := hT
            clear hb hT hM hown hdis hph
            go_wp2
            go_ret
            exact ⟨w.heap.size, T, rfl, HB.out, Nat.le_refl _, HL.out, HT.out⟩
end Go.Proofs.Ybulkcixi
