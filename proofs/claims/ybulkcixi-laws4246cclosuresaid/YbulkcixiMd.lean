/-
  The model, walked.
-/
import Derived.Test.YbulkcixiMo
import Derived.Test.YbulkcixiE4
namespace Go.Proofs.Ybulkcixi
open Go.RowKit
set_option linter.unusedVariables false
set_option linter.unusedSimpArgs false

theorem bytes_ne {a b : ByteArray} (h : a ≠ b) : (a.toList == b.toList) = false ∧ (a == b) = false := by
  have h1 : (a.toList == b.toList) = false := by
    cases hq : (a.toList == b.toList) with
    | false => rfl
    | true =>
      exfalso
      apply h
      obtain ⟨⟨x⟩⟩ := a
      obtain ⟨⟨y⟩⟩ := b
      have : x = y := by simpa [ByteArray.toList_eq] using hq
      rw [this]
  exact ⟨h1, by rw [beq_toListBytes]; exact h1⟩
theorem own_cellAt {w : World} {base : Nat} {v : Value} {Q : List Nat} {p c : Nat} (h : w.ownsRow base 3 1 v Q.length (ints Q)) (hc : Q[p]? = some c) : ∃ g cap, v = .slice (some ⟨g, 0, none⟩) Q.length cap ∧ w.cell? ⟨g, p, none⟩ = some (.int .i64 (c : Int)) := by
  have hp : p < Q.length := ent_lt hc
  obtain ⟨sp, cp, rfl, hsp⟩ := own_form h
  obtain ⟨gv, rfl⟩ := hsp (by omega)
  refine ⟨gv, cp, rfl, ?_⟩
  rw [h.cellAt p (by omega)]
  simp [ints, hc]

set_option maxRecDepth 100000 in
set_option maxHeartbeats 4000000 in
theorem zmodel_any (B n sc : Nat) (cs : Nat → CallD) (w : World) (hn : n ≤ 1024) (hcs : Calls40 w B n cs) (hB : B < w.heap.size) :
    Calls Yba.prog 12 #[.slice (some ⟨B, 0, none⟩) n sc] w fun e w' => TookRes n cs w e w' := by
  have hn' : (n : Int) ≤ 1024 := by omega
  obtain ⟨W0, hmk, hb0, hs0, hT0⟩ := make_bools n hn w
  obtain ⟨W1, hmq, hb1, hs1, hO1⟩ := make_queue n hn W0 (w.heap.size + 1) (by omega)
  have HCS : Hid (Calls40 w B n cs) := hcs
  have HB1 : Hid (Below w.heap.size w W1) := hb0.trans (hb1.mono (by omega))
  have HT1 : Hid (Row W1 w.heap.size 4 n (fun _ v => v = .bool false)) := hT0.later hb1 (by omega)
  rw [hs0] at hmq hO1 hs1
  have HO1 : Hid (W1.ownsRow (w.heap.size + 1) 3 1 (.slice (some ⟨w.heap.size + 1, 0, none⟩) 0 n) 0 (ints [])) := hO1
  clear hcs hb0 hT0 hb1 hO1 hs0
  go_enter Yba.func12, Yba.ntmps12
  go_wp2
  clear hmk hmq
  go_loopw [5, 6] (fun qv iv wr => ∃ (k : Nat) (Q : List Nat) (T : Nat → Bool), k ≤ n ∧ iv = .int .i64 k ∧ Below w.heap.size w wr ∧ w.heap.size + 1 ≤ wr.heap.size ∧ Row wr w.heap.size 4 n (fun j v => v = .bool (T j)) ∧
    wr.ownsRow (w.heap.size + 1) 3 1 qv Q.length (ints Q) ∧ MStart n cs k Q T) (fun _ i _ => n - (intOf i).toNat)
  case atStart => exact ⟨0, [], fun _ => false, Nat.zero_le _, rfl, HB1.out, by omega, HT1.out, HO1.out, MStart.zero⟩
  case round =>
    clear HB1 HT1 HO1 hs1
    obtain ⟨k, Q, T, hk, rfl, hb, hsz, hT, hown, hms⟩ := hrel
    by_cases hlt : k < n
    · have hlt' : (k : Int) < (n : Int) := by omega
      have hwk : IntKind.i64.wrap ((k : Int) + 1) = (k : Int) + 1 := by rw [IntKind.wrap_i64]; omega
      obtain ⟨c, hc⟩ : ∃ c, cs k = c := ⟨_, rfl⟩
      have q7 : wr.cell? ⟨B, k * 12 + 7, none⟩ = some (.int .u8 c.oc) := by have := cell_later hb (cells12 HCS.out hlt 7 (by omega)); rw [hc] at this; exact this
      have hQl : Q.length ≤ 4096 := by have := hms.len; omega
      have HB : Hid (Below w.heap.size w wr) := hb
      have HT : Hid (Row wr w.heap.size 4 n (fun j v => v = .bool (T j))) := hT
      have HO : Hid (wr.ownsRow (w.heap.size + 1) 3 1 u5 Q.length (ints Q)) := hown
      have HS : Hid (MStart n cs k Q T) := hms
      clear hb hT hown hms
      by_cases ho : c.oc = 1
      · rw [ho] at q7
        have HS2 : Hid (MStart n cs (k + 1) (Q ++ [k]) (withT T k)) := HS.out.yes hlt (by rw [hc]; exact ho)
        go_wp2_with (rw [st_guard])
        refine law_bool 4 w.heap.size k n true _ (by rfl) (by rfl) HT.out hlt ?_
        intro W3 ht3 hp3
        have hO3 : W3.ownsRow (w.heap.size + 1) 3 1 u5 Q.length (ints Q) := own_same HO.out fun g' hg' => ht3.other g' (by have := (HO.out.lt g' hg').1; omega)
        have hs3 : w.heap.size + 1 ≤ W3.heap.size := by rw [ht3.size]; exact hsz
        obtain ⟨v1, V1, r1, hO4, hK4⟩ := queue_push hO3 hs3 hQl k 3 48
        have HB4 : Hid (Below w.heap.size w V1) := (HB.out.trans ht3.below).trans ((hK4.below hO3 hs3).mono (by omega))
        have HT4 : Hid (Row V1 w.heap.size 4 n (fun j v => v = .bool (withT T k j))) := (hK4.row (by decide) hp3 hO3).mono fun j v _ hv => by
          by_cases ej : j = k
          · rw [if_pos ej] at hv
            rw [hv, ej, withT_same]
          · rw [if_neg ej] at hv
            have : (j == k) = false := by simp [ej]
            rw [hv]; simp [withT, this]
        have HO4 : Hid (V1.ownsRow (w.heap.size + 1) 3 1 v1 (Q ++ [k]).length (ints (Q ++ [k]))) := hO4
        have hs4 : w.heap.size + 1 ≤ V1.heap.size := by have := hK4.size; omega
        clear ht3 hp3 hO3 hs3 hO4 hK4 HB HT HO HS q7
        go_wp2_with (rw [ap_guard]; refine law_append (by rfl) (by rfl) r1 ?_)
        go_roundw
        case rel => exact ⟨k + 1, Q ++ [k], withT T k, by omega, by go_num, HB4.out, hs4, HT4.out, HO4.out, HS2.out⟩
        case measure => simp [intOf]; omega
      · have hob : (c.oc == 1) = false := by simp [ho]
        have HS2 : Hid (MStart n cs (k + 1) Q T) := HS.out.no (by rw [hc]; exact ho)
        go_wp2
        go_roundw
        case rel => exact ⟨k + 1, Q, T, by omega, by go_num, HB.out, hsz, HT.out, HO.out, HS2.out⟩
        case measure => simp [intOf]; omega
    · obtain rfl : k = n := by omega
      have hlt' : ¬ (k : Int) < (k : Int) := by omega
      have HP : Hid (MPh k cs 0 Q T) := hms.phase
      have HB : Hid (Below w.heap.size w wr) := hb
      have HT : Hid (Row wr w.heap.size 4 k (fun j v => v = .bool (T j))) := hT
      have HO : Hid (wr.ownsRow (w.heap.size + 1) 3 1 u5 Q.length (ints Q)) := hown
      clear hb hT hown hms
      go_wp2
      go_loopw [5, 7] (fun qv hv wr => ∃ (h : Nat) (Q : List Nat) (T : Nat → Bool), h ≤ Q.length ∧ hv = .int .i64 h ∧ Below w.heap.size w wr ∧ w.heap.size + 1 ≤ wr.heap.size ∧ Row wr w.heap.size 4 k (fun j v => v = .bool (T j)) ∧
        wr.ownsRow (w.heap.size + 1) 3 1 qv Q.length (ints Q) ∧ MPh k cs h Q T) (fun _ i _ => k - (intOf i).toNat)
      case atStart => exact ⟨0, Q, T, Nat.zero_le _, rfl, HB.out, hsz, HT.out, HO.out, HP.out⟩
      case round =>
        clear HB HT HO HP hsz
        obtain ⟨h, Q, T, hh, rfl, hb, hsz, hT, hown, hph⟩ := hrel
        have hQl : Q.length ≤ k := by have := hph.len; omega
        by_cases hlt2 : h < Q.length
        · have hlt2' : (h : Int) < (Q.length : Int) := by omega
          have hwh : IntKind.i64.wrap ((h : Int) + 1) = (h : Int) + 1 := by rw [IntKind.wrap_i64]; omega
          obtain ⟨c, hc⟩ : ∃ c, Q[h]? = some c := ⟨Q[h], by simp [hlt2]⟩
          obtain ⟨g, cap, rfl, t0⟩ := own_cellAt hown hc
          obtain ⟨hck, hTc⟩ := (hph.mem c).1 (List.mem_of_getElem? hc)
          have hck' : (c : Int) < (k : Int) := by omega
          obtain ⟨d, hd⟩ : ∃ d, cs c = d := ⟨_, rfl⟩
          have q0 : wr.cell? ⟨B, c * 12, none⟩ = some (.string procS) := by have := cell_later hb (cells12 HCS.out hck 0 (by omega)); rw [hd] at this; exact this
          have q1 : wr.cell? ⟨B, c * 12 + 1, none⟩ = some (.int .u8 d.f) := by have := cell_later hb (cells12 HCS.out hck 1 (by omega)); rw [hd] at this; exact this
          have q2 : wr.cell? ⟨B, c * 12 + 2, none⟩ = some (.string d.key) := by have := cell_later hb (cells12 HCS.out hck 2 (by omega)); rw [hd] at this; exact this
          have q3 : wr.cell? ⟨B, c * 12 + 3, none⟩ = some (.int .i64 d.vn) := by have := cell_later hb (cells12 HCS.out hck 3 (by omega)); rw [hd] at this; exact this
          have q4 : wr.cell? ⟨B, c * 12 + 4, none⟩ = some (.bool d.vv) := by have := cell_later hb (cells12 HCS.out hck 4 (by omega)); rw [hd] at this; exact this
          have q5 : wr.cell? ⟨B, c * 12 + 5, none⟩ = some (.int .i64 d.en) := by have := cell_later hb (cells12 HCS.out hck 5 (by omega)); rw [hd] at this; exact this
          have q6 : wr.cell? ⟨B, c * 12 + 6, none⟩ = some (.bool d.ev) := by have := cell_later hb (cells12 HCS.out hck 6 (by omega)); rw [hd] at this; exact this
          have q7 : wr.cell? ⟨B, c * 12 + 7, none⟩ = some (.int .u8 d.oc) := by have := cell_later hb (cells12 HCS.out hck 7 (by omega)); rw [hd] at this; exact this
          have q8 : wr.cell? ⟨B, c * 12 + 8, none⟩ = some (.int .i64 0) := by have := cell_later hb (cells12 HCS.out hck 8 (by omega)); rw [hd] at this; exact this
          have q9 : wr.cell? ⟨B, c * 12 + 9, none⟩ = some (.int .i64 0) := by have := cell_later hb (cells12 HCS.out hck 9 (by omega)); rw [hd] at this; exact this
          have q10 : wr.cell? ⟨B, c * 12 + 10, none⟩ = some (.int .i64 0) := by have := cell_later hb (cells12 HCS.out hck 10 (by omega)); rw [hd] at this; exact this
          have q11 : wr.cell? ⟨B, c * 12 + 11, none⟩ = some (.int .i64 0) := by have := cell_later hb (cells12 HCS.out hck 11 (by omega)); rw [hd] at this; exact this
          have HB : Hid (Below w.heap.size w wr) := hb
          have HT : Hid (Row wr w.heap.size 4 k (fun j v => v = .bool (T j))) := hT
          have HO : Hid (wr.ownsRow (w.heap.size + 1) 3 1 (.slice (some ⟨g, 0, none⟩) Q.length cap) Q.length (ints Q)) := hown
          have HP : Hid (MPh k cs h Q T) := hph
          have HQ : Hid (Q[h]? = some c) := hc
          clear hb hT hown hph hc
          go_wp2_with (rw [st_guard])
          refine law_store 40 40 wr.heap.size (callCells d) (fun _ _ => True) (info_size Yba.inf40) (by rfl) (by rfl) (Row.alloc _ _ _ (fun _ _ => True) (fun _ _ _ => trivial)) (by rfl) ?_
          intro W2 ht2 hp2
          obtain ⟨f, hf⟩ : ∃ f, wr.heap.size = f := ⟨_, rfl⟩
          have hb2 : Below f wr W2 := by
            rw [← hf]
            exact Below.trans ((Below.refl _ _).alloc (Nat.le_refl _) _) ht2.below
          rw [hf] at hp2 hsz
          have hs2 : W2.heap.size = f + 1 := by rw [ht2.size]; simp; omega
          have g1 : W2.cell? ⟨f, 1, none⟩ = some (.int .u8 d.f) := cell_row1 hp2 (i := 1) (by show 1 < 12; omega)
          have g3 : W2.cell? ⟨f, 3, none⟩ = some (.int .i64 d.vn) := cell_row1 hp2 (i := 3) (by show 3 < 12; omega)
          have g4 : W2.cell? ⟨f, 4, none⟩ = some (.bool d.vv) := cell_row1 hp2 (i := 4) (by show 4 < 12; omega)
          have HF2 : Hid (Row W2 f 40 12 (fun i v => v = (callCells d).getD i undef)) := hp2
          have HB2 : Hid (Below w.heap.size w W2) := HB.out.trans (hb2.mono (by omega))
          have HT2 : Hid (Row W2 w.heap.size 4 k (fun j v => v = .bool (T j))) := HT.out.later hb2 (by omega)
          have HO2 : Hid (W2.ownsRow (w.heap.size + 1) 3 1 (.slice (some ⟨g, 0, none⟩) Q.length cap) Q.length (ints Q)) := own_same HO.out fun g' hg' => hb2.block g' (by have := (HO.out.lt g' hg').2; omega)
          clear ht2 hp2 hb2 HB HT HO t0 q0 q1 q2 q3 q4 q5 q6 q7 q8 q9 q10 q11
          rw [hf]
          by_cases hf2 : d.f = 2
          · rw [hf2] at g1
            have HP2 : Hid (MPh k cs (h + 1) Q T) := HP.out.write HQ.out (by rw [hd]; exact hf2)
            go_wp2
            go_roundw
            case rel => exact ⟨h + 1, Q, T, by omega, by go_num, HB2.out, by omega, HT2.out, HO2.out, HP2.out⟩
            case measure => simp [intOf]; omega
          · have hfb : (d.f == 2) = false := by simp [hf2]
            have HI : Hid (MIn k cs h c 0 Q T) := ⟨HP.out, HQ.out, fun m hm => by omega⟩
            have HN2 : Hid ((cs c).f ≠ 2) := by show (cs c).f ≠ 2; rw [hd]; exact hf2
            clear HP HQ
            go_wp2_with (rw [st_guard])
            refine law_store 37 37 (f + 1) [.int .i64 d.vn, .bool d.vv] (fun _ _ => True) (info_size Yba.inf37) (by rfl) (by rfl) (by rw [← hs2]; exact Row.alloc _ _ _ (fun _ _ => True) (fun _ _ _ => trivial)) (by rfl) ?_
            intro W3 ht3 hp3
            have hb3 : Below (f + 1) W2 W3 := Below.trans ((Below.refl _ _).alloc (by omega) _) ht3.below
            have hs3 : W3.heap.size = f + 2 := by rw [ht3.size]; simp; omega
            have HF3 : Hid (Row W3 f 40 12 (fun i v => v = (callCells d).getD i undef)) := HF2.out.later hb3 (by omega)
            have HB3 : Hid (Below w.heap.size w W3) := HB2.out.trans (hb3.mono (by omega))
            have HT3 : Hid (Row W3 w.heap.size 4 k (fun j v => v = .bool (T j))) := HT2.out.later hb3 (by omega)
            have HO3 : Hid (W3.ownsRow (w.heap.size + 1) 3 1 (.slice (some ⟨g, 0, none⟩) Q.length cap) Q.length (ints Q)) := own_same HO2.out fun g' hg' => hb3.block g' (by have := (HO2.out.lt g' hg').2; omega)
            have HN3 : Hid (Row W3 (f + 1) 37 2 (fun i v => v = [Value.int .i64 d.vn, .bool d.vv].getD i undef)) := hp3
            have x1 : W3.cell? ⟨f, 1, none⟩ = some (.int .u8 d.f) := cell_row1 HF3.out (i := 1) (by omega)
            have x5 : W3.cell? ⟨f, 5, none⟩ = some (.int .i64 d.en) := cell_row1 HF3.out (i := 5) (by omega)
            have x6 : W3.cell? ⟨f, 6, none⟩ = some (.bool d.ev) := cell_row1 HF3.out (i := 6) (by omega)
            clear ht3 hp3 hb3 g1 g3 g4 HF2 HB2 HT2 HO2 hs2
            by_cases hf3 : d.f = 3
            · rw [hf3] at x1
              go_wp2_with (rw [st_guard])
              refine law_store 37 37 (f + 1) [.int .i64 d.en, .bool d.ev] _ (info_size Yba.inf37) (by rfl) (by rfl) HN3.out (by rfl) ?_
              intro W4 ht4 hp4
              have hs4 : W4.heap.size = f + 2 := by rw [ht4.size]; exact hs3
              have HF4 : Hid (Row W4 f 40 12 (fun i v => v = (callCells d).getD i undef)) := ht4.row HF3.out (by omega)
              have HB4 : Hid (Below w.heap.size w W4) := HB3.out.trans (ht4.below.mono (by omega))
              have HT4 : Hid (Row W4 w.heap.size 4 k (fun j v => v = .bool (T j))) := ht4.row HT3.out (by omega)
              have HO4 : Hid (W4.ownsRow (w.heap.size + 1) 3 1 (.slice (some ⟨g, 0, none⟩) Q.length cap) Q.length (ints Q)) := own_same HO3.out fun g' hg' => ht4.other g' fun e => row_apart' (by decide) HN3.out HO3.out (by rw [← e]; exact hg'.symm)
              have HN4 : Hid (Row W4 (f + 1) 37 2 (fun i v => v = [Value.int .i64 (needKv d).n, .bool (needKv d).b].getD i undef)) := by
                unfold needKv; rw [if_pos hf3]; exact hp4
              clear ht4 hp4 x1 x5 x6 HF3 HB3 HT3 HO3 HN3 hs3
              go_wp2
              obtain ⟨kk, hkk⟩ : ∃ kk, needKv d = kk := ⟨_, rfl⟩
              have HKK : Hid (needKv (cs c) = kk) := by show needKv (cs c) = kk; rw [hd]; exact hkk
              have HKY : Hid (kk.key = d.key) := by show kk.key = d.key; rw [← hkk]; unfold needKv; split <;> rfl
              rw [hkk] at HN4
              clear hkk hd
              go_loopw [5, 10] (fun qv jv wx => ∃ (j : Nat) (Q : List Nat) (T : Nat → Bool), j ≤ k ∧ jv = .int .i64 j ∧ Below w.heap.size w wx ∧ f + 2 ≤ wx.heap.size ∧ Row wx w.heap.size 4 k (fun j v => v = .bool (T j)) ∧
                wx.ownsRow (w.heap.size + 1) 3 1 qv Q.length (ints Q) ∧ Row wx f 40 12 (fun i v => v = (callCells d).getD i undef) ∧ Row wx (f + 1) 37 2 (fun i v => v = [Value.int .i64 kk.n, .bool kk.b].getD i undef) ∧ MIn k cs h c j Q T) (fun _ jv _ => k - (intOf jv).toNat)
              case atStart => exact ⟨0, Q, T, Nat.zero_le _, rfl, HB4.out, by omega, HT4.out, HO4.out, HF4.out, HN4.out, HI.out⟩
              case round =>
                clear HB4 HT4 HO4 HF4 HN4 HI hs4 hlt2 hlt2' hh hQl
                obtain ⟨j, Q, T, hj, rfl, hb, hsz4, hT, hown, hF, hN, hin⟩ := hrel
                by_cases hlt3 : j < k
                · have hlt3' : (j : Int) < (k : Int) := by omega
                  have hwj : IntKind.i64.wrap ((j : Int) + 1) = (j : Int) + 1 := by rw [IntKind.wrap_i64]; omega
                  obtain ⟨e, he⟩ : ∃ e, cs j = e := ⟨_, rfl⟩
                  have q0 : wr.cell? ⟨B, j * 12, none⟩ = some (.string procS) := by have := cell_later hb (cells12 HCS.out hlt3 0 (by omega)); rw [he] at this; exact this
                  have q1 : wr.cell? ⟨B, j * 12 + 1, none⟩ = some (.int .u8 e.f) := by have := cell_later hb (cells12 HCS.out hlt3 1 (by omega)); rw [he] at this; exact this
                  have q2 : wr.cell? ⟨B, j * 12 + 2, none⟩ = some (.string e.key) := by have := cell_later hb (cells12 HCS.out hlt3 2 (by omega)); rw [he] at this; exact this
                  have q3 : wr.cell? ⟨B, j * 12 + 3, none⟩ = some (.int .i64 e.vn) := by have := cell_later hb (cells12 HCS.out hlt3 3 (by omega)); rw [he] at this; exact this
                  have q4 : wr.cell? ⟨B, j * 12 + 4, none⟩ = some (.bool e.vv) := by have := cell_later hb (cells12 HCS.out hlt3 4 (by omega)); rw [he] at this; exact this
                  have q5 : wr.cell? ⟨B, j * 12 + 5, none⟩ = some (.int .i64 e.en) := by have := cell_later hb (cells12 HCS.out hlt3 5 (by omega)); rw [he] at this; exact this
                  have q6 : wr.cell? ⟨B, j * 12 + 6, none⟩ = some (.bool e.ev) := by have := cell_later hb (cells12 HCS.out hlt3 6 (by omega)); rw [he] at this; exact this
                  have q7 : wr.cell? ⟨B, j * 12 + 7, none⟩ = some (.int .u8 e.oc) := by have := cell_later hb (cells12 HCS.out hlt3 7 (by omega)); rw [he] at this; exact this
                  have q8 : wr.cell? ⟨B, j * 12 + 8, none⟩ = some (.int .i64 0) := by have := cell_later hb (cells12 HCS.out hlt3 8 (by omega)); rw [he] at this; exact this
                  have q9 : wr.cell? ⟨B, j * 12 + 9, none⟩ = some (.int .i64 0) := by have := cell_later hb (cells12 HCS.out hlt3 9 (by omega)); rw [he] at this; exact this
                  have q10 : wr.cell? ⟨B, j * 12 + 10, none⟩ = some (.int .i64 0) := by have := cell_later hb (cells12 HCS.out hlt3 10 (by omega)); rw [he] at this; exact this
                  have q11 : wr.cell? ⟨B, j * 12 + 11, none⟩ = some (.int .i64 0) := by have := cell_later hb (cells12 HCS.out hlt3 11 (by omega)); rw [he] at this; exact this
                  have hQl : Q.length ≤ 4096 := by have := hin.ph.len; omega
                  have HB : Hid (Below w.heap.size w wr) := hb
                  have HT : Hid (Row wr w.heap.size 4 k (fun j v => v = .bool (T j))) := hT
                  have HO : Hid (wr.ownsRow (w.heap.size + 1) 3 1 u5 Q.length (ints Q)) := hown
                  have HF : Hid (Row wr f 40 12 (fun i v => v = (callCells d).getD i undef)) := hF
                  have HN : Hid (Row wr (f + 1) 37 2 (fun i v => v = [Value.int .i64 kk.n, .bool kk.b].getD i undef)) := hN
                  have HI : Hid (MIn k cs h c j Q T) := hin
                  clear hb hT hown hF hN hin
                  go_wp2_with (rw [st_guard])
                  refine law_store 40 40 wr.heap.size (callCells e) (fun _ _ => True) (info_size Yba.inf40) (by rfl) (by rfl) (Row.alloc _ _ _ (fun _ _ => True) (fun _ _ _ => trivial)) (by rfl) ?_
                  intro W5 ht5 hp5
                  obtain ⟨f5, hf5⟩ : ∃ f5, wr.heap.size = f5 := ⟨_, rfl⟩
                  have hb5 : Below f5 wr W5 := by
                    rw [← hf5]
                    exact Below.trans ((Below.refl _ _).alloc (Nat.le_refl _) _) ht5.below
                  rw [hf5] at hp5 hsz4
                  have hs5 : f5 + 1 ≤ W5.heap.size := by rw [ht5.size]; simp; omega
                  have y1 : W5.cell? ⟨f5, 1, none⟩ = some (.int .u8 e.f) := cell_row1 hp5 (i := 1) (by show 1 < 12; omega)
                  have y2 : W5.cell? ⟨f5, 2, none⟩ = some (.string e.key) := cell_row1 hp5 (i := 2) (by show 2 < 12; omega)
                  have y3 : W5.cell? ⟨f5, 3, none⟩ = some (.int .i64 e.vn) := cell_row1 hp5 (i := 3) (by show 3 < 12; omega)
                  have y4 : W5.cell? ⟨f5, 4, none⟩ = some (.bool e.vv) := cell_row1 hp5 (i := 4) (by show 4 < 12; omega)
                  have y7 : W5.cell? ⟨f5, 7, none⟩ = some (.int .u8 e.oc) := cell_row1 hp5 (i := 7) (by show 7 < 12; omega)
                  have HB5 : Hid (Below w.heap.size w W5) := HB.out.trans (hb5.mono (by omega))
                  have HT5 : Hid (Row W5 w.heap.size 4 k (fun j v => v = .bool (T j))) := HT.out.later hb5 (by omega)
                  have HO5 : Hid (W5.ownsRow (w.heap.size + 1) 3 1 u5 Q.length (ints Q)) := own_same HO.out fun g' hg' => hb5.block g' (by have := (HO.out.lt g' hg').2; omega)
                  have HF5 : Hid (Row W5 f 40 12 (fun i v => v = (callCells d).getD i undef)) := HF.out.later hb5 (by omega)
                  have HN5 : Hid (Row W5 (f + 1) 37 2 (fun i v => v = [Value.int .i64 kk.n, .bool kk.b].getD i undef)) := HN.out.later hb5 (by omega)
                  have z2 : W5.cell? ⟨f, 2, none⟩ = some (.string d.key) := cell_row1 HF5.out (i := 2) (by omega)
                  have n0 : W5.cell? ⟨f + 1, 0, none⟩ = some (.int .i64 kk.n) := cell_row1 HN5.out (i := 0) (by omega)
                  have n1 : W5.cell? ⟨f + 1, 1, none⟩ = some (.bool kk.b) := cell_row1 HN5.out (i := 1) (by omega)
                  have t0 : W5.cell? ⟨w.heap.size, j, none⟩ = some (.bool (T j)) := cell_row1 (F := fun i => .bool (T i)) HT5.out hlt3
                  clear ht5 hp5 hb5 HB HT HO HF HN q0 q1 q2 q3 q4 q5 q6 q7 q8 q9 q10 q11
                  rw [hf5]
                  cases hTj : T j with
                  | true =>
                    rw [hTj] at t0
                    have HI5 : Hid (MIn k cs h c (j + 1) Q T) := HI.out.no (.inl hTj)
                    go_wp2
                    go_roundw
                    case rel => exact ⟨j + 1, Q, T, by omega, by go_num, HB5.out, by omega, HT5.out, HO5.out, HF5.out, HN5.out, HI5.out⟩
                    case measure => simp [intOf]; omega
                  | false =>
                    rw [hTj] at t0
                    by_cases ho : e.oc = 3
                    · rw [ho] at y7
                      by_cases hf1 : e.f = 1
                      · rw [hf1] at y1
                        have HI5 : Hid (MIn k cs h c (j + 1) Q T) := HI.out.no (.inr (.inl (by rw [he]; simp [unkB, hf1])))
                        go_wp2
                        go_roundw
                        case rel => exact ⟨j + 1, Q, T, by omega, by go_num, HB5.out, by omega, HT5.out, HO5.out, HF5.out, HN5.out, HI5.out⟩
                        case measure => simp [intOf]; omega
                      · have hf1b : (e.f == 1) = false := by simp [hf1]
                        have HU : Hid (unkB (cs j) = true) := by show unkB (cs j) = true; rw [he]; simp [unkB, ho, hf1]
                        have hm37 : Yba.prog.eqGuardType Yba.prog.depth 37 = false := by kernel_rfl
                        by_cases hky : e.key = d.key
                        · rw [hky] at y2
                          by_cases hvl : e.vn = kk.n ∧ e.vv = kk.b
                          · have h37 : ∀ w, (Op.equalIn 10000 37 (.agg #[.int .i64 e.vn, .bool e.vv]) (.agg #[.int .i64 kk.n, .bool kk.b])).run Yba.prog w = .ok true w := fun w => by
                              rw [eq37 9998, hvl.1, hvl.2]; simp
                            have HKV : Hid (kvOf (cs j) = needKv (cs c)) := by
                              show kvOf (cs j) = needKv (cs c)
                              rw [he, HKK.out]
                              have := HKY.out
                              cases kk
                              unfold kvOf
                              simp only at hvl this
                              rw [hky, hvl.1, hvl.2, this]
                            have HI5 : Hid (MIn k cs h c (j + 1) (Q ++ [j]) (withT T j)) := HI.out.yes hlt3 HN2.out hTj HU.out HKV.out
                            clear hvl
                            go_wp2_with (rw [st_guard])
                            refine law_bool 4 w.heap.size j k true _ (by rfl) (by rfl) HT5.out hlt3 ?_
                            intro W6 ht6 hp6
                            have hO6 : W6.ownsRow (w.heap.size + 1) 3 1 u5 Q.length (ints Q) := own_same HO5.out fun g' hg' => ht6.other g' (by have := (HO5.out.lt g' hg').1; omega)
                            have hs6 : w.heap.size + 1 ≤ W6.heap.size := by rw [ht6.size]; omega
                            have hs6' : f + 2 ≤ W6.heap.size := by rw [ht6.size]; omega
                            obtain ⟨v1, V1, r1, hO7, hK7⟩ := queue_push hO6 hs6 hQl j 3 48
                            have HB7 : Hid (Below w.heap.size w V1) := (HB5.out.trans ht6.below).trans ((hK7.below hO6 hs6).mono (by omega))
                            have HT7 : Hid (Row V1 w.heap.size 4 k (fun i v => v = .bool (withT T j i))) := (hK7.row (by decide) hp6 hO6).mono fun i v _ hv => by
                              by_cases ej : i = j
                              · rw [if_pos ej] at hv
                                rw [hv, ej, withT_same]
                              · rw [if_neg ej] at hv
                                have : (i == j) = false := by simp [ej]
                                rw [hv]; simp [withT, this]
                            have HO7 : Hid (V1.ownsRow (w.heap.size + 1) 3 1 v1 (Q ++ [j]).length (ints (Q ++ [j]))) := hO7
                            have HF7 : Hid (Row V1 f 40 12 (fun i v => v = (callCells d).getD i undef)) := hK7.row (by decide) (ht6.row HF5.out (by omega)) hO6
                            have HN7 : Hid (Row V1 (f + 1) 37 2 (fun i v => v = [Value.int .i64 kk.n, .bool kk.b].getD i undef)) := hK7.row (by decide) (ht6.row HN5.out (by omega)) hO6
                            have hs7 : f + 2 ≤ V1.heap.size := by have := hK7.size; omega
                            clear ht6 hp6 hO6 hs6 hs6' hO7 hK7 HB5 HT5 HO5 HF5 HN5 y1 y2 y3 y4 y7 z2 n0 n1 t0 h37
                            go_wp2_with (rw [ap_guard]; refine law_append (by rfl) (by rfl) r1 ?_)
                            go_roundw
                            case rel => exact ⟨j + 1, Q ++ [j], withT T j, by omega, by go_num, HB7.out, hs7, HT7.out, HO7.out, HF7.out, HN7.out, HI5.out⟩
                            case measure => simp [intOf]; omega
                          · have h37 : ∀ w, (Op.equalIn 10000 37 (.agg #[.int .i64 e.vn, .bool e.vv]) (.agg #[.int .i64 kk.n, .bool kk.b])).run Yba.prog w = .ok false w := fun w => by
                              rw [eq37 9998]
                              congr 1
                              by_cases h1 : e.vn = kk.n
                              · have h2 : ¬ e.vv = kk.b := fun h2 => hvl ⟨h1, h2⟩
                                simp [h1, h2]
                              · simp [h1]
                            have HI5 : Hid (MIn k cs h c (j + 1) Q T) := HI.out.no (.inr (.inr (by
                              rw [he, HKK.out]
                              intro hh
                              exact hvl ⟨by rw [← hh]; rfl, by rw [← hh]; rfl⟩)))
                            clear hvl
                            go_wp2
                            go_roundw
                            case rel => exact ⟨j + 1, Q, T, by omega, by go_num, HB5.out, by omega, HT5.out, HO5.out, HF5.out, HN5.out, HI5.out⟩
                            case measure => simp [intOf]; omega
                        · obtain ⟨hkb, hkb2⟩ := bytes_ne hky
                          have HI5 : Hid (MIn k cs h c (j + 1) Q T) := HI.out.no (.inr (.inr (by
                            rw [he, HKK.out]
                            intro hh
                            exact hky (by rw [← HKY.out, ← hh]; rfl))))
                          go_wp2
                          go_roundw
                          case rel => exact ⟨j + 1, Q, T, by omega, by go_num, HB5.out, by omega, HT5.out, HO5.out, HF5.out, HN5.out, HI5.out⟩
                          case measure => simp [intOf]; omega
                    · have hob : (e.oc == 3) = false := by simp [ho]
                      have HI5 : Hid (MIn k cs h c (j + 1) Q T) := HI.out.no (.inr (.inl (by rw [he]; simp [unkB, ho])))
                      go_wp2
                      go_roundw
                      case rel => exact ⟨j + 1, Q, T, by omega, by go_num, HB5.out, by omega, HT5.out, HO5.out, HF5.out, HN5.out, HI5.out⟩
                      case measure => simp [intOf]; omega
                · obtain rfl : j = k := by omega
                  have hlt3' : ¬ (j : Int) < (j : Int) := by omega
                  have hle : h + 1 ≤ Q.length := ent_lt hin.at_
                  have hQj : Q.length ≤ j := by have := hin.ph.len; omega
                  have HP5 : Hid (MPh j cs (h + 1) Q T) := hin.out
                  have HB : Hid (Below w.heap.size w wr) := hb
                  have HT : Hid (Row wr w.heap.size 4 j (fun i v => v = .bool (T i))) := hT
                  have HO : Hid (wr.ownsRow (w.heap.size + 1) 3 1 u5 Q.length (ints Q)) := hown
                  clear hb hT hown hF hN hin
                  go_wp2
                  go_roundw
                  case rel => exact ⟨h + 1, Q, T, hle, by go_num, HB.out, by omega, HT.out, HO.out, HP5.out⟩
                  case measure => simp [intOf]; omega
            · have hf3b : (d.f == 3) = false := by simp [hf3]
              have hs4 := hs3
              have HF4 : Hid (Row W3 f 40 12 (fun i v => v = (callCells d).getD i undef)) := HF3.out
              have HB4 : Hid (Below w.heap.size w W3) := HB3.out
              have HT4 : Hid (Row W3 w.heap.size 4 k (fun j v => v = .bool (T j))) := HT3.out
              have HO4 : Hid (W3.ownsRow (w.heap.size + 1) 3 1 (.slice (some ⟨g, 0, none⟩) Q.length cap) Q.length (ints Q)) := HO3.out
              have HN4 : Hid (Row W3 (f + 1) 37 2 (fun i v => v = [Value.int .i64 (needKv d).n, .bool (needKv d).b].getD i undef)) := by
                unfold needKv; rw [if_neg hf3]; exact HN3.out
              clear HF3 HB3 HT3 HO3 HN3 hs3
              go_wp2
              clear x1 x5 x6
              obtain ⟨kk, hkk⟩ : ∃ kk, needKv d = kk := ⟨_, rfl⟩
              have HKK : Hid (needKv (cs c) = kk) := by show needKv (cs c) = kk; rw [hd]; exact hkk
              have HKY : Hid (kk.key = d.key) := by show kk.key = d.key; rw [← hkk]; unfold needKv; split <;> rfl
              rw [hkk] at HN4
              clear hkk hd
              go_loopw [5, 10] (fun qv jv wx => ∃ (j : Nat) (Q : List Nat) (T : Nat → Bool), j ≤ k ∧ jv = .int .i64 j ∧ Below w.heap.size w wx ∧ f + 2 ≤ wx.heap.size ∧ Row wx w.heap.size 4 k (fun j v => v = .bool (T j)) ∧
                wx.ownsRow (w.heap.size + 1) 3 1 qv Q.length (ints Q) ∧ Row wx f 40 12 (fun i v => v = (callCells d).getD i undef) ∧ Row wx (f + 1) 37 2 (fun i v => v = [Value.int .i64 kk.n, .bool kk.b].getD i undef) ∧ MIn k cs h c j Q T) (fun _ jv _ => k - (intOf jv).toNat)
              case atStart => exact ⟨0, Q, T, Nat.zero_le _, rfl, HB4.out, by omega, HT4.out, HO4.out, HF4.out, HN4.out, HI.out⟩
              case round =>
                clear HB4 HT4 HO4 HF4 HN4 HI hs4 hlt2 hlt2' hh hQl
                obtain ⟨j, Q, T, hj, rfl, hb, hsz4, hT, hown, hF, hN, hin⟩ := hrel
                by_cases hlt3 : j < k
                · have hlt3' : (j : Int) < (k : Int) := by omega
                  have hwj : IntKind.i64.wrap ((j : Int) + 1) = (j : Int) + 1 := by rw [IntKind.wrap_i64]; omega
                  obtain ⟨e, he⟩ : ∃ e, cs j = e := ⟨_, rfl⟩
                  have q0 : wr.cell? ⟨B, j * 12, none⟩ = some (.string procS) := by have := cell_later hb (cells12 HCS.out hlt3 0 (by omega)); rw [he] at this; exact this
                  have q1 : wr.cell? ⟨B, j * 12 + 1, none⟩ = some (.int .u8 e.f) := by have := cell_later hb (cells12 HCS.out hlt3 1 (by omega)); rw [he] at this; exact this
                  have q2 : wr.cell? ⟨B, j * 12 + 2, none⟩ = some (.string e.key) := by have := cell_later hb (cells12 HCS.out hlt3 2 (by omega)); rw [he] at this; exact this
                  have q3 : wr.cell? ⟨B, j * 12 + 3, none⟩ = some (.int .i64 e.vn) := by have := cell_later hb (cells12 HCS.out hlt3 3 (by omega)); rw [he] at this; exact this
                  have q4 : wr.cell? ⟨B, j * 12 + 4, none⟩ = some (.bool e.vv) := by have := cell_later hb (cells12 HCS.out hlt3 4 (by omega)); rw [he] at this; exact this
                  have q5 : wr.cell? ⟨B, j * 12 + 5, none⟩ = some (.int .i64 e.en) := by have := cell_later hb (cells12 HCS.out hlt3 5 (by omega)); rw [he] at this; exact this
                  have q6 : wr.cell? ⟨B, j * 12 + 6, none⟩ = some (.bool e.ev) := by have := cell_later hb (cells12 HCS.out hlt3 6 (by omega)); rw [he] at this; exact this
                  have q7 : wr.cell? ⟨B, j * 12 + 7, none⟩ = some (.int .u8 e.oc) := by have := cell_later hb (cells12 HCS.out hlt3 7 (by omega)); rw [he] at this; exact this
                  have q8 : wr.cell? ⟨B, j * 12 + 8, none⟩ = some (.int .i64 0) := by have := cell_later hb (cells12 HCS.out hlt3 8 (by omega)); rw [he] at this; exact this
                  have q9 : wr.cell? ⟨B, j * 12 + 9, none⟩ = some (.int .i64 0) := by have := cell_later hb (cells12 HCS.out hlt3 9 (by omega)); rw [he] at this; exact this
                  have q10 : wr.cell? ⟨B, j * 12 + 10, none⟩ = some (.int .i64 0) := by have := cell_later hb (cells12 HCS.out hlt3 10 (by omega)); rw [he] at this; exact this
                  have q11 : wr.cell? ⟨B, j * 12 + 11, none⟩ = some (.int .i64 0) := by have := cell_later hb (cells12 HCS.out hlt3 11 (by omega)); rw [he] at this; exact this
                  have hQl : Q.length ≤ 4096 := by have := hin.ph.len; omega
                  have HB : Hid (Below w.heap.size w wr) := hb
                  have HT : Hid (Row wr w.heap.size 4 k (fun j v => v = .bool (T j))) := hT
                  have HO : Hid (wr.ownsRow (w.heap.size + 1) 3 1 u5 Q.length (ints Q)) := hown
                  have HF : Hid (Row wr f 40 12 (fun i v => v = (callCells d).getD i undef)) := hF
                  have HN : Hid (Row wr (f + 1) 37 2 (fun i v => v = [Value.int .i64 kk.n, .bool kk.b].getD i undef)) := hN
                  have HI : Hid (MIn k cs h c j Q T) := hin
                  clear hb hT hown hF hN hin
                  go_wp2_with (rw [st_guard])
                  refine law_store 40 40 wr.heap.size (callCells e) (fun _ _ => True) (info_size Yba.inf40) (by rfl) (by rfl) (Row.alloc _ _ _ (fun _ _ => True) (fun _ _ _ => trivial)) (by rfl) ?_
                  intro W5 ht5 hp5
                  obtain ⟨f5, hf5⟩ : ∃ f5, wr.heap.size = f5 := ⟨_, rfl⟩
                  have hb5 : Below f5 wr W5 := by
                    rw [← hf5]
                    exact Below.trans ((Below.refl _ _).alloc (Nat.le_refl _) _) ht5.below
                  rw [hf5] at hp5 hsz4
                  have hs5 : f5 + 1 ≤ W5.heap.size := by rw [ht5.size]; simp; omega
                  have y1 : W5.cell? ⟨f5, 1, none⟩ = some (.int .u8 e.f) := cell_row1 hp5 (i := 1) (by show 1 < 12; omega)
                  have y2 : W5.cell? ⟨f5, 2, none⟩ = some (.string e.key) := cell_row1 hp5 (i := 2) (by show 2 < 12; omega)
                  have y3 : W5.cell? ⟨f5, 3, none⟩ = some (.int .i64 e.vn) := cell_row1 hp5 (i := 3) (by show 3 < 12; omega)
                  have y4 : W5.cell? ⟨f5, 4, none⟩ = some (.bool e.vv) := cell_row1 hp5 (i := 4) (by show 4 < 12; omega)
                  have y7 : W5.cell? ⟨f5, 7, none⟩ = some (.int .u8 e.oc) := cell_row1 hp5 (i := 7) (by show 7 < 12; omega)
                  have HB5 : Hid (Below w.heap.size w W5) := HB.out.trans (hb5.mono (by omega))
                  have HT5 : Hid (Row W5 w.heap.size 4 k (fun j v => v = .bool (T j))) := HT.out.later hb5 (by omega)
                  have HO5 : Hid (W5.ownsRow (w.heap.size + 1) 3 1 u5 Q.length (ints Q)) := own_same HO.out fun g' hg' => hb5.block g' (by have := (HO.out.lt g' hg').2; omega)
                  have HF5 : Hid (Row W5 f 40 12 (fun i v => v = (callCells d).getD i undef)) := HF.out.later hb5 (by omega)
                  have HN5 : Hid (Row W5 (f + 1) 37 2 (fun i v => v = [Value.int .i64 kk.n, .bool kk.b].getD i undef)) := HN.out.later hb5 (by omega)
                  have z2 : W5.cell? ⟨f, 2, none⟩ = some (.string d.key) := cell_row1 HF5.out (i := 2) (by omega)
                  have n0 : W5.cell? ⟨f + 1, 0, none⟩ = some (.int .i64 kk.n) := cell_row1 HN5.out (i := 0) (by omega)
                  have n1 : W5.cell? ⟨f + 1, 1, none⟩ = some (.bool kk.b) := cell_row1 HN5.out (i := 1) (by omega)
                  have t0 : W5.cell? ⟨w.heap.size, j, none⟩ = some (.bool (T j)) := cell_row1 (F := fun i => .bool (T i)) HT5.out hlt3
                  clear ht5 hp5 hb5 HB HT HO HF HN q0 q1 q2 q3 q4 q5 q6 q7 q8 q9 q10 q11
                  rw [hf5]
                  cases hTj : T j with
                  | true =>
                    rw [hTj] at t0
                    have HI5 : Hid (MIn k cs h c (j + 1) Q T) := HI.out.no (.inl hTj)
                    go_wp2
                    go_roundw
                    case rel => exact ⟨j + 1, Q, T, by omega, by go_num, HB5.out, by omega, HT5.out, HO5.out, HF5.out, HN5.out, HI5.out⟩
                    case measure => simp [intOf]; omega
                  | false =>
                    rw [hTj] at t0
                    by_cases ho : e.oc = 3
                    · rw [ho] at y7
                      by_cases hf1 : e.f = 1
                      · rw [hf1] at y1
                        have HI5 : Hid (MIn k cs h c (j + 1) Q T) := HI.out.no (.inr (.inl (by rw [he]; simp [unkB, hf1])))
                        go_wp2
                        go_roundw
                        case rel => exact ⟨j + 1, Q, T, by omega, by go_num, HB5.out, by omega, HT5.out, HO5.out, HF5.out, HN5.out, HI5.out⟩
                        case measure => simp [intOf]; omega
                      · have hf1b : (e.f == 1) = false := by simp [hf1]
                        have HU : Hid (unkB (cs j) = true) := by show unkB (cs j) = true; rw [he]; simp [unkB, ho, hf1]
                        have hm37 : Yba.prog.eqGuardType Yba.prog.depth 37 = false := by kernel_rfl
                        by_cases hky : e.key = d.key
                        · rw [hky] at y2
                          by_cases hvl : e.vn = kk.n ∧ e.vv = kk.b
                          · have h37 : ∀ w, (Op.equalIn 10000 37 (.agg #[.int .i64 e.vn, .bool e.vv]) (.agg #[.int .i64 kk.n, .bool kk.b])).run Yba.prog w = .ok true w := fun w => by
                              rw [eq37 9998, hvl.1, hvl.2]; simp
                            have HKV : Hid (kvOf (cs j) = needKv (cs c)) := by
                              show kvOf (cs j) = needKv (cs c)
                              rw [he, HKK.out]
                              have := HKY.out
                              cases kk
                              unfold kvOf
                              simp only at hvl this
                              rw [hky, hvl.1, hvl.2, this]
                            have HI5 : Hid (MIn k cs h c (j + 1) (Q ++ [j]) (withT T j)) := HI.out.yes hlt3 HN2.out hTj HU.out HKV.out
                            clear hvl
                            go_wp2_with (rw [st_guard])
                            refine law_bool 4 w.heap.size j k true _ (by rfl) (by rfl) HT5.out hlt3 ?_
                            intro W6 ht6 hp6
                            have hO6 : W6.ownsRow (w.heap.size + 1) 3 1 u5 Q.length (ints Q) := own_same HO5.out fun g' hg' => ht6.other g' (by have := (HO5.out.lt g' hg').1; omega)
                            have hs6 : w.heap.size + 1 ≤ W6.heap.size := by rw [ht6.size]; omega
                            have hs6' : f + 2 ≤ W6.heap.size := by rw [ht6.size]; omega
                            obtain ⟨v1, V1, r1, hO7, hK7⟩ := queue_push hO6 hs6 hQl j 3 48
                            have HB7 : Hid (Below w.heap.size w V1) := (HB5.out.trans ht6.below).trans ((hK7.below hO6 hs6).mono (by omega))
                            have HT7 : Hid (Row V1 w.heap.size 4 k (fun i v => v = .bool (withT T j i))) := (hK7.row (by decide) hp6 hO6).mono fun i v _ hv => by
                              by_cases ej : i = j
                              · rw [if_pos ej] at hv
                                rw [hv, ej, withT_same]
                              · rw [if_neg ej] at hv
                                have : (i == j) = false := by simp [ej]
                                rw [hv]; simp [withT, this]
                            have HO7 : Hid (V1.ownsRow (w.heap.size + 1) 3 1 v1 (Q ++ [j]).length (ints (Q ++ [j]))) := hO7
                            have HF7 : Hid (Row V1 f 40 12 (fun i v => v = (callCells d).getD i undef)) := hK7.row (by decide) (ht6.row HF5.out (by omega)) hO6
                            have HN7 : Hid (Row V1 (f + 1) 37 2 (fun i v => v = [Value.int .i64 kk.n, .bool kk.b].getD i undef)) := hK7.row (by decide) (ht6.row HN5.out (by omega)) hO6
                            have hs7 : f + 2 ≤ V1.heap.size := by have := hK7.size; omega
                            clear ht6 hp6 hO6 hs6 hs6' hO7 hK7 HB5 HT5 HO5 HF5 HN5 y1 y2 y3 y4 y7 z2 n0 n1 t0 h37
                            go_wp2_with (rw [ap_guard]; refine law_append (by rfl) (by rfl) r1 ?_)
                            go_roundw
                            case rel => exact ⟨j + 1, Q ++ [j], withT T j, by omega, by go_num, HB7.out, hs7, HT7.out, HO7.out, HF7.out, HN7.out, HI5.out⟩
                            case measure => simp [intOf]; omega
                          · have h37 : ∀ w, (Op.equalIn 10000 37 (.agg #[.int .i64 e.vn, .bool e.vv]) (.agg #[.int .i64 kk.n, .bool kk.b])).run Yba.prog w = .ok false w := fun w => by
                              rw [eq37 9998]
                              congr 1
                              by_cases h1 : e.vn = kk.n
                              · have h2 : ¬ e.vv = kk.b := fun h2 => hvl ⟨h1, h2⟩
                                simp [h1, h2]
                              · simp [h1]
                            have HI5 : Hid (MIn k cs h c (j + 1) Q T) := HI.out.no (.inr (.inr (by
                              rw [he, HKK.out]
                              intro hh
                              exact hvl ⟨by rw [← hh]; rfl, by rw [← hh]; rfl⟩)))
                            clear hvl
                            go_wp2
                            go_roundw
                            case rel => exact ⟨j + 1, Q, T, by omega, by go_num, HB5.out, by omega, HT5.out, HO5.out, HF5.out, HN5.out, HI5.out⟩
                            case measure => simp [intOf]; omega
                        · obtain ⟨hkb, hkb2⟩ := bytes_ne hky
                          have HI5 : Hid (MIn k cs h c (j + 1) Q T) := HI.out.no (.inr (.inr (by
                            rw [he, HKK.out]
                            intro hh
                            exact hky (by rw [← HKY.out, ← hh]; rfl))))
                          go_wp2
                          go_roundw
                          case rel => exact ⟨j + 1, Q, T, by omega, by go_num, HB5.out, by omega, HT5.out, HO5.out, HF5.out, HN5.out, HI5.out⟩
                          case measure => simp [intOf]; omega
                    · have hob : (e.oc == 3) = false := by simp [ho]
                      have HI5 : Hid (MIn k cs h c (j + 1) Q T) := HI.out.no (.inr (.inl (by rw [he]; simp [unkB, ho])))
                      go_wp2
                      go_roundw
                      case rel => exact ⟨j + 1, Q, T, by omega, by go_num, HB5.out, by omega, HT5.out, HO5.out, HF5.out, HN5.out, HI5.out⟩
                      case measure => simp [intOf]; omega
                · obtain rfl : j = k := by omega
                  have hlt3' : ¬ (j : Int) < (j : Int) := by omega
                  have hle : h + 1 ≤ Q.length := ent_lt hin.at_
                  have hQj : Q.length ≤ j := by have := hin.ph.len; omega
                  have HP5 : Hid (MPh j cs (h + 1) Q T) := hin.out
                  have HB : Hid (Below w.heap.size w wr) := hb
                  have HT : Hid (Row wr w.heap.size 4 j (fun i v => v = .bool (T i))) := hT
                  have HO : Hid (wr.ownsRow (w.heap.size + 1) 3 1 u5 Q.length (ints Q)) := hown
                  clear hb hT hown hF hN hin
                  go_wp2
                  go_roundw
                  case rel => exact ⟨h + 1, Q, T, hle, by go_num, HB.out, by omega, HT.out, HO.out, HP5.out⟩
                  case measure => simp [intOf]; omega
        · obtain rfl : h = Q.length := by omega
          have hlt2' : ¬ (Q.length : Int) < (Q.length : Int) := by omega
          have HL : Hid (Least k cs T) := hph.finish
          have HB : Hid (Below w.heap.size w wr) := hb
          have HT : Hid (Row wr w.heap.size 4 k (fun j v => v = .bool (T j))) := hT
          obtain ⟨sp, cp, rfl, hsp⟩ := own_form hown
          clear hb hT hown hph
          go_wp2
          go_ret
          exact ⟨w.heap.size, T, rfl, HB.out, Nat.le_refl _, HL.out, HT.out⟩
end Go.Proofs.Ybulkcixi
