/-
  zzs4246cbuild, walked.
-/
import Derived.Test.YbulkcixiOp
namespace Go.Proofs.Ybulkcixi
open Go.RowKit
set_option linter.unusedVariables false
set_option linter.unusedSimpArgs false

structure InD where
  f : Nat
  o : Nat
  k : Nat
  v : Nat
  vv : Bool
  e : Nat
  ev : Bool
def inCells (x : InD) : List Value := [.int .u8 x.f, .int .u8 x.o, .int .u8 x.k, .int .u8 x.v, .bool x.vv, .int .u8 x.e, .bool x.ev]
def mkCall (x : InD) : CallD := ⟨((x.f % 4 + 1 : Nat) : Int), keyS ((x.k % 3 : Nat) : Int), ((x.v % 3 : Nat) : Int), x.vv, ((x.e % 3 : Nat) : Int), x.ev, ((x.o % 3 + 1 : Nat) : Int)⟩

theorem LUpon_build40 {C : World → Prop} {S : Value → Prop} {a : Act} {w : World} {d : Option Tmp} {ty : TypeId} {pos : String} {af : Array Edge} {x1 x2 x3 x4 x5 : Operand} {c : CallD} (hC : C w) (h1 : a.eval x1 = .int .u8 c.f) (h2 : a.eval x2 = .string c.key) (h3 : a.eval x3 = .agg #[.int .i64 c.vn, .bool c.vv])
    (h4 : a.eval x4 = .agg #[.int .i64 c.en, .bool c.ev]) (h5 : a.eval x5 = .int .u8 c.oc) (hS : S (.agg (callCells c).toArray)) :
    LUpon Yba.prog C S ((execOp a.eval { dst := d, op := .build 40 #[(0, .const (.string ⟨#[112]⟩)), (1, x1), (2, x2), (3, x3), (4, x4), (5, x5)], type := ty, pos := pos, after := af, guard := none }).run Yba.prog w) := by
  have hu := Yba.underlying40
  obtain ⟨i, hi, hz0, hz1, hz2⟩ := info_parts Yba.inf40
  have h0 : a.eval (.const (.string ⟨#[112]⟩)) = .string ⟨#[112]⟩ := rfl
  obtain ⟨ρ, hρ⟩ : ∃ ρ, a.eval = ρ := ⟨_, rfl⟩
  rw [hρ] at h0 h1 h2 h3 h4 h5 ⊢
  simp [execOp, h0, h1, h2, h3, h4, h5, hi, hz0, go_sem, LUpon]
  exact ⟨hS, hC⟩

theorem make_calls (n : Nat) (hn : n ≤ 1024) (w : World) : (Instr.makeSlice 30 (.int .i64 n) (.int .i64 n)).run Yba.prog w = .ok (.slice (some ⟨w.heap.size, 0, none⟩) n n) (w.alloc (.cells (madeCells #[.string ⟨#[]⟩, .int .u8 0, .string ⟨#[]⟩, .int .i64 0, .bool false, .int .i64 0, .bool false, .int .u8 0, .int .i64 0, .int .i64 0, .int .i64 0, .int .i64 0] (n * 12)) 40)) := by
  obtain ⟨i, hi, hz0, hz1, hz2⟩ := info_parts Yba.inf40
  have := run_make (P := Yba.prog) w 30 40 i _ Yba.underlying30 hi hz0 .i64 .i64 n n (by omega) (by omega) (by rw [hz2]; omega) (by omega)
  simpa [hz1, Value.cells] using this

/-- Block B holds the n calls. -/
def Calls40 (w : World) (B n : Nat) (cs : Nat → CallD) : Prop := Row w B 40 (n * 12) (fun i v => v = (callCells (cs (i / 12))).getD (i % 12) undef)

set_option maxRecDepth 100000 in
set_option maxHeartbeats 4000000 in
theorem build_any (sa : Option Addr) (sb so n sc : Nat) (x : Nat → InD) (w : World) (hn : n ≤ 1024) (hsa : 0 < n → sa = some ⟨sb, so, none⟩)
    (hlt : ∀ i, i < n → (x i).f < 256 ∧ (x i).o < 256 ∧ (x i).k < 256 ∧ (x i).v < 256 ∧ (x i).e < 256)
    (hit : ∀ i, i < n → ∀ j v, (inCells (x i))[j]? = some v → w.cell? ⟨sb, so + i * 7 + j, none⟩ = some v) :
    Calls Yba.prog 10 #[.slice sa n sc] w fun e w' => e = .returned (.slice (some ⟨w.heap.size, 0, none⟩) n n) ∧ Below w.heap.size w w' ∧ Calls40 w' w.heap.size n (fun i => mkCall (x i)) := by
  have hn' : (n : Int) ≤ 1024 := by omega
  have hmk := make_calls n hn w
  have HIT : Hid (∀ i, i < n → ∀ j v, (inCells (x i))[j]? = some v → w.cell? ⟨sb, so + i * 7 + j, none⟩ = some v) := hit
  have HLT : Hid (∀ i, i < n → (x i).f < 256 ∧ (x i).o < 256 ∧ (x i).k < 256 ∧ (x i).v < 256 ∧ (x i).e < 256) := hlt
  clear hit hlt
  obtain ⟨Z, hZ⟩ : ∃ Z, (madeCells #[.string ⟨#[]⟩, .int .u8 0, .string ⟨#[]⟩, .int .i64 0, .bool false, .int .i64 0, .bool false, .int .u8 0, .int .i64 0, .int .i64 0, .int .i64 0, .int .i64 0] (n * 12)) = Z := ⟨_, rfl⟩
  have hZs : Z.size = n * 12 := by rw [← hZ, size_madeCells]
  rw [hZ] at hmk
  clear hZ
  go_enter Yba.func10, Yba.ntmps10
  go_wp2
  go_loopw [4] (fun i wr => ∃ k : Nat, k ≤ n ∧ i = .int .i64 k ∧ Below w.heap.size w wr ∧ Row wr w.heap.size 40 (n * 12) (fun i v => i < k * 12 → v = (callCells (mkCall (x (i / 12)))).getD (i % 12) undef)) (fun i _ => n - (intOf i).toNat)
  case atStart =>
    refine ⟨0, Nat.zero_le _, rfl, (Below.refl _ _).alloc (Nat.le_refl _) _, ?_⟩
    have := Row.alloc w Z 40 (fun i v => i < 0 * 12 → v = (callCells (mkCall (x (i / 12)))).getD (i % 12) undef) (fun i v _ h => by omega)
    rwa [hZs] at this
  case round =>
    obtain ⟨k, hk, rfl, hb, hrow⟩ := hrel
    by_cases hlt : k < n
    · obtain rfl := hsa (by omega)
      have hlt' : (k : Int) < (n : Int) := by omega
      obtain ⟨xk, hxk⟩ : ∃ xk, x k = xk := ⟨_, rfl⟩
      have hq := HIT.out k hlt
      obtain ⟨l1, l2, l3, l4, l5⟩ := HLT.out k hlt
      rw [hxk] at hq l1 l2 l3 l4 l5
      have q0 : wr.cell? ⟨sb, so + k * 7, none⟩ = some (.int .u8 xk.f) := cell_later hb (hq 0 _ rfl)
      have q1 : wr.cell? ⟨sb, so + k * 7 + 1, none⟩ = some (.int .u8 xk.o) := cell_later hb (hq 1 _ rfl)
      have q2 : wr.cell? ⟨sb, so + k * 7 + 2, none⟩ = some (.int .u8 xk.k) := cell_later hb (hq 2 _ rfl)
      have q3 : wr.cell? ⟨sb, so + k * 7 + 3, none⟩ = some (.int .u8 xk.v) := cell_later hb (hq 3 _ rfl)
      have q4 : wr.cell? ⟨sb, so + k * 7 + 4, none⟩ = some (.bool xk.vv) := cell_later hb (hq 4 _ rfl)
      have q5 : wr.cell? ⟨sb, so + k * 7 + 5, none⟩ = some (.int .u8 xk.e) := cell_later hb (hq 5 _ rfl)
      have q6 : wr.cell? ⟨sb, so + k * 7 + 6, none⟩ = some (.bool xk.ev) := cell_later hb (hq 6 _ rfl)
      have HR : Hid (Row wr w.heap.size 40 (n * 12) (fun i v => i < k * 12 → v = (callCells (mkCall (x (i / 12)))).getD (i % 12) undef)) := hrow
      have HB : Hid (Below w.heap.size w wr) := hb
      have hBl := hrow.lt
      clear hrow hb hq
      go_wp2_with (rw [st_guard])
      refine law_store 43 43 wr.heap.size (inCells xk) (fun _ _ => True) (info_size Yba.inf43) (by rfl) (by rfl) (Row.alloc _ _ _ (fun _ _ => True) (fun _ _ _ => trivial)) (by rfl) ?_
      intro W1 ht1 hp1
      obtain ⟨f, hf⟩ : ∃ f, wr.heap.size = f := ⟨_, rfl⟩
      have hb1 : Below f wr W1 := by
        rw [← hf]
        exact Below.trans ((Below.refl _ _).alloc (Nat.le_refl _) _) ht1.below
      rw [hf] at hp1 hBl
      have HF1 : Hid (Row W1 f 43 7 (fun i v => v = (inCells xk).getD i undef)) := hp1
      have HB1 : Hid (Below w.heap.size w W1) := HB.out.trans (hb1.mono (by omega))
      have HR1 : Hid (Row W1 w.heap.size 40 (n * 12) (fun i v => i < k * 12 → v = (callCells (mkCall (x (i / 12)))).getD (i % 12) undef)) := HR.out.later hb1 (by omega)
      clear ht1 hp1 hb1 q0 q1 q2 q3 q4 q5 q6 HR HB
      rw [hf]
      go_wp2
      have tm : ∀ (y m : Nat), 0 < m → m < 256 → ((y : Int).tmod (m : Int)) = ((y % m : Nat) : Int) := fun y m h0 h1 => by rw [Int.tmod_eq_emod_of_nonneg (by omega)]; simp
      have w8 : ∀ y : Nat, y < 256 → IntKind.u8.wrap (y : Int) = (y : Int) := fun y hy => by rw [IntKind.wrap_u8]; omega
      have TM : Hid (∀ (y m : Nat), 0 < m → m < 256 → ((y : Int).tmod (m : Int)) = ((y % m : Nat) : Int)) := tm
      have W8 : Hid (∀ y : Nat, y < 256 → IntKind.u8.wrap (y : Int) = (y : Int)) := w8
      clear tm w8
      refine wp_region_obs2 (L := 29) (C := fun b w' => Below w.heap.size w w' ∧ Row w' f 43 7 (fun i v => v = (inCells xk).getD i undef) ∧ Row w' w.heap.size 40 (n * 12) (fun i v => (i < k * 12 → v = (callCells (mkCall (x (i / 12)))).getD (i % 12) undef) ∧ (b = true → i < (k + 1) * 12 → v = (callCells (mkCall (x (i / 12)))).getD (i % 12) undef)))
        (R := fun o v => v = [.slice (some ⟨w.heap.size, 0, none⟩) n n, .int .i64 k, .pointer (some ⟨f, 0, none⟩), .int .u8 xk.f, .int .u8 (xk.f % 4 : Nat), .int .u8 (xk.f % 4 + 1 : Nat), .pointer (some ⟨f, 2, none⟩), .int .u8 xk.k, .string (keyS ((xk.k % 3 : Nat) : Int)), .pointer (some ⟨f, 3, none⟩), .int .u8 xk.v, .int .u8 (xk.v % 3 : Nat), .int .i64 (xk.v % 3 : Nat), .pointer (some ⟨f, 4, none⟩), .bool xk.vv, .agg #[.int .i64 (xk.v % 3 : Nat), .bool xk.vv], .pointer (some ⟨f, 5, none⟩), .int .u8 xk.e, .int .u8 (xk.e % 3 : Nat), .int .i64 (xk.e % 3 : Nat), .pointer (some ⟨f, 6, none⟩), .bool xk.ev, .agg #[.int .i64 (xk.e % 3 : Nat), .bool xk.ev], .pointer (some ⟨f, 1, none⟩), .int .u8 xk.o, .int .u8 (xk.o % 3 : Nat), .int .u8 (xk.o % 3 + 1 : Nat), .agg (callCells (mkCall xk)).toArray, .pointer (some ⟨w.heap.size, 0 + k * 12, none⟩)].getD o undef)
        (by kernel_rfl) (by kernel_rfl) ?start ⟨?o0, ?o1, ?o2, ?o3, ?o4, ?o5, ?o6, ?o7, ?o8, ?o9, ?o10, ?o11, ?o12, ?o13, ?o14, ?o15, ?o16, ?o17, ?o18, ?o19, ?o20, ?o21, ?o22, ?o23, ?o24, ?o25, ?o26, ?o27, ?o28, ?o29, trivial⟩ ?fin
      case start => exact ⟨HB1.out.drew, Row.of_heap (W := W1.drew) HF1.out rfl, (Row.of_heap (W := W1.drew) HR1.out rfl).mono fun i v _ h => ⟨h, fun e => by cases e⟩⟩
      case o0 => exact fun b a w' hp hC => LUpon_move hC (hp.rest 3 (by kernel_rfl))
      case o1 => exact fun b a w' hp hC => LUpon_move hC (hp.rest 4 (by kernel_rfl))
      case o2 => exact fun b a w' hp hC => LUpon_field43 hC (hp.rest 5 (by kernel_rfl)) (by omega) rfl
      case o3 => exact fun b a w' hp hC => LUpon_load5 hC (hp.on ⟨2, .data⟩ (by simp) rfl _ 21 rfl rfl) (cell_row1 hC.2.1 (i := 0) (by omega)) rfl
      case o4 => exact fun b a w' hp hC => LUpon_rem5 (.inr rfl) hC (hp.on ⟨3, .data⟩ (by simp) rfl _ 22 rfl rfl) (TM.out xk.f 4 (by omega) (by omega)) (W8.out _ (by omega)) rfl
      case o5 => exact fun b a w' hp hC => LUpon_add5 hC (hp.on ⟨4, .data⟩ (by simp) rfl _ 23 rfl rfl) (W8.out (xk.f % 4 + 1) (by omega)) rfl
      case o6 => exact fun b a w' hp hC => LUpon_field43 hC (hp.rest 5 (by kernel_rfl)) (by omega) rfl
      case o7 => exact fun b a w' hp hC => LUpon_load5 hC (hp.on ⟨6, .data⟩ (by simp) rfl _ 25 rfl rfl) (cell_row1 hC.2.1 (i := 2) (by omega)) rfl
      case o8 => exact fun b a w' hp hC => LUpon_call14 (hp.on ⟨7, .data⟩ (by simp) rfl _ 26 rfl rfl) ((key_any xk.k w').mono fun e w'' ⟨he, hw⟩ => ⟨_, he, rfl, by rw [hw]; exact hC⟩)
      case o9 => exact fun b a w' hp hC => LUpon_field43 hC (hp.rest 5 (by kernel_rfl)) (by omega) rfl
      case o10 => exact fun b a w' hp hC => LUpon_load5 hC (hp.on ⟨9, .data⟩ (by simp) rfl _ 28 rfl rfl) (cell_row1 hC.2.1 (i := 3) (by omega)) rfl
      case o11 => exact fun b a w' hp hC => LUpon_rem5 (.inl rfl) hC (hp.on ⟨10, .data⟩ (by simp) rfl _ 29 rfl rfl) (TM.out xk.v 3 (by omega) (by omega)) (W8.out _ (by omega)) rfl
      case o12 => exact fun b a w' hp hC => LUpon_conv52 hC (hp.on ⟨11, .data⟩ (by simp) rfl _ 30 rfl rfl) (by rw [IntKind.wrap_i64]; omega) rfl
      case o13 => exact fun b a w' hp hC => LUpon_field43 hC (hp.rest 5 (by kernel_rfl)) (by omega) rfl
      case o14 => exact fun b a w' hp hC => LUpon_load4 hC (hp.on ⟨13, .data⟩ (by simp) rfl _ 32 rfl rfl) (cell_row1 hC.2.1 (i := 4) (by omega)) rfl
      case o15 => exact fun b a w' hp hC => LUpon_build37 hC (hp.on ⟨12, .data⟩ (by simp) rfl _ 31 rfl rfl) (hp.on ⟨14, .data⟩ (by simp) rfl _ 33 rfl rfl) rfl
      case o16 => exact fun b a w' hp hC => LUpon_field43 hC (hp.rest 5 (by kernel_rfl)) (by omega) rfl
      case o17 => exact fun b a w' hp hC => LUpon_load5 hC (hp.on ⟨16, .data⟩ (by simp) rfl _ 35 rfl rfl) (cell_row1 hC.2.1 (i := 5) (by omega)) rfl
      case o18 => exact fun b a w' hp hC => LUpon_rem5 (.inl rfl) hC (hp.on ⟨17, .data⟩ (by simp) rfl _ 36 rfl rfl) (TM.out xk.e 3 (by omega) (by omega)) (W8.out _ (by omega)) rfl
      case o19 => exact fun b a w' hp hC => LUpon_conv52 hC (hp.on ⟨18, .data⟩ (by simp) rfl _ 37 rfl rfl) (by rw [IntKind.wrap_i64]; omega) rfl
      case o20 => exact fun b a w' hp hC => LUpon_field43 hC (hp.rest 5 (by kernel_rfl)) (by omega) rfl
      case o21 => exact fun b a w' hp hC => LUpon_load4 hC (hp.on ⟨20, .data⟩ (by simp) rfl _ 39 rfl rfl) (cell_row1 hC.2.1 (i := 6) (by omega)) rfl
      case o22 => exact fun b a w' hp hC => LUpon_build37 hC (hp.on ⟨19, .data⟩ (by simp) rfl _ 38 rfl rfl) (hp.on ⟨21, .data⟩ (by simp) rfl _ 40 rfl rfl) rfl
      case o23 => exact fun b a w' hp hC => LUpon_field43 hC (hp.rest 5 (by kernel_rfl)) (by omega) rfl
      case o24 => exact fun b a w' hp hC => LUpon_load5 hC (hp.on ⟨23, .data⟩ (by simp) rfl _ 42 rfl rfl) (cell_row1 hC.2.1 (i := 1) (by omega)) rfl
      case o25 => exact fun b a w' hp hC => LUpon_rem5 (.inl rfl) hC (hp.on ⟨24, .data⟩ (by simp) rfl _ 43 rfl rfl) (TM.out xk.o 3 (by omega) (by omega)) (W8.out _ (by omega)) rfl
      case o26 => exact fun b a w' hp hC => LUpon_add5 hC (hp.on ⟨25, .data⟩ (by simp) rfl _ 44 rfl rfl) (W8.out (xk.o % 3 + 1) (by omega)) rfl
      case o27 => exact fun b a w' hp hC => LUpon_build40 (c := mkCall xk) hC (hp.on ⟨5, .data⟩ (by simp) rfl _ 24 rfl rfl) (hp.on ⟨8, .data⟩ (by simp) rfl _ 27 rfl rfl) (hp.on ⟨15, .data⟩ (by simp) rfl _ 34 rfl rfl) (hp.on ⟨22, .data⟩ (by simp) rfl _ 41 rfl rfl) (hp.on ⟨26, .data⟩ (by simp) rfl _ 45 rfl rfl) rfl
      case o28 => exact fun b a w' hp hC => LUpon_index Yba.underlying30 (run_size Yba.inf40) hC (hp.on ⟨0, .data⟩ (by simp) rfl _ 19 rfl rfl) (hp.on ⟨1, .data⟩ (by simp) rfl _ 20 rfl rfl) hlt rfl
      case o29 =>
        intro b a w' hp hC
        refine LUpon_store (cs := callCells (mkCall xk)) (info_size Yba.inf40) (by rfl) (hC.2.2.there _ 12 (by omega)) (hp.on ⟨28, .data⟩ (by simp) rfl _ 47 rfl rfl) (hp.on ⟨27, .data⟩ (by simp) rfl _ 46 rfl rfl) ?_ rfl
        have ht := Turn.sets w.heap.size (callCells (mkCall xk)) (0 + k * 12) w'
        refine ⟨hC.1.trans ht.below, ht.row hC.2.1 (by omega), (Row.sets (callCells (mkCall xk)) (0 + k * 12) w' _ hC.2.2).mono fun i v hi h => ?_⟩
        have h12 : (callCells (mkCall xk)).length = 12 := rfl
        rw [h12] at h
        have key : i < (k + 1) * 12 → v = (callCells (mkCall (x (i / 12)))).getD (i % 12) undef := by
          intro hi2
          by_cases hi3 : i < k * 12
          · exact (h.2 (.inl (by omega))).1 hi3
          · rw [h.1 (by omega) (by omega), show i / 12 = k by omega, hxk, show i - (0 + k * 12) = i % 12 by omega]
        exact ⟨fun h' => key (by omega), fun _ => key⟩
      case fin =>
        intro a w' he hC
        have HR2 : Hid (Row w' w.heap.size 40 (n * 12) (fun i v => i < (k + 1) * 12 → v = (callCells (mkCall (x (i / 12)))).getD (i % 12) undef)) := hC.2.2.mono fun i v _ h => h.2 rfl
        have HB2 : Hid (Below w.heap.size w w') := hC.1
        clear hC
        obtain rfl := he.of_list (c := 29) (by kernel_rfl)
        clear he
        simp only [putAll, List.headD, List.tail, Act.put, List.setIfInBounds_toArray, List.set_cons_succ, List.set_cons_zero]
        have hwk : IntKind.i64.wrap ((k : Int) + 1) = (k : Int) + 1 := by rw [IntKind.wrap_i64]; omega
        go_wp2
        go_roundw
        case rel => exact ⟨k + 1, by omega, by go_num, HB2.out, HR2.out⟩
        case measure => simp [intOf]; omega
    · go_wp2
      go_ret
      refine ⟨rfl, hb, ?_⟩
      obtain rfl : k = n := by omega
      exact hrow.mono fun i v hi h => h hi
end Go.Proofs.Ybulkcixi
