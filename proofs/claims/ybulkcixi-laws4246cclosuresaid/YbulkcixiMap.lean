/-
  The map of this seat, operation by operation, at run level.
-/
import Derived.Test.YbulkcixiEq
import Derived.MapKept
namespace Go.Proofs.Ybulkcixi
open Go.RowKit
set_option linter.unusedVariables false
set_option linter.unusedSimpArgs false

def mapObj (es : List Ent) (clock : Nat) : Obj := .map (es.map toE).toArray clock
def MapAt (w : World) (M : Nat) (es : List Ent) (clock : Nat) : Prop := w.heap[M]? = some (mapObj es clock)

theorem run_check_at (d : Nat) (e : Bool) (k : KV) (w : World) : (Instr.checkKey e (d + 3) 47 (kvV k)).run Yba.prog w = .ok () w := by
  have u47 := Yba.underlying47
  have u37 := Yba.underlying37
  have u9 := Yba.underlying9
  have u2 := Yba.underlying2
  have u4 := Yba.underlying4
  have p37 : (part 37 #[.string k.key, .int .i64 k.n, .bool k.b] 1).run Yba.prog w = .ok (.agg #[.int .i64 k.n, .bool k.b]) w := by
    obtain ⟨i, hi, h0, h1, h2⟩ := info_parts Yba.inf37
    simp [part, go_sem, u37, sizeOf, typeInfo, hi, h1]
  unfold kvV
  simp [Instr.checkKey, go_sem, u47, u37, u9, u2, u4, p37]
theorem run_check (e : Bool) (k : KV) (w : World) : (Instr.checkKey e 10000 47 (kvV k)).run Yba.prog w = .ok () w := run_check_at 9997 e k w
theorem get_map {M : Nat} {es : List Ent} {clock : Nat} {w : World} (hm : MapAt w M es clock) : (getObj M).run Yba.prog w = .ok (mapObj es clock) w := by
  unfold MapAt at hm
  simp only [getObj, Sem.run, hm]
  rfl
theorem set_map {M : Nat} {es : List Ent} {clock : Nat} {w : World} (o : Obj) (hm : MapAt w M es clock) : (setObj M o).run Yba.prog w = .ok () { w with heap := w.heap.setIfInBounds M o } := by
  unfold MapAt mapObj at hm
  simp [setObj, Sem.run, hm]

theorem setBlock_turn (w : World) (M : Nat) (o : Obj) (h : M < w.heap.size) : Turn M w { w with heap := w.heap.setIfInBounds M o } ∧ ({ w with heap := w.heap.setIfInBounds M o } : World).heap[M]? = some o := by
  refine ⟨⟨rfl, rfl, rfl, by simp, fun k hk => ?_⟩, ?_⟩
  · show (w.heap.setIfInBounds M o)[k]? = _
    rw [Array.getElem?_setIfInBounds, if_neg (fun e => hk e.symm)]
  · show (w.heap.setIfInBounds M o)[M]? = _
    simp [h]
theorem mapAt_lt {w : World} {M : Nat} {es : List Ent} {clock : Nat} (h : MapAt w M es clock) : M < w.heap.size := by
  rcases Nat.lt_or_ge M w.heap.size with h' | h'
  · exact h'
  · unfold MapAt at h
    simp [Array.getElem?_eq_none h'] at h

/-- 'm[k] = ..' at a key that is not there. -/
theorem run_entry_new {M : Nat} {es : List Ent} {clock : Nat} {k : KV} {w : World} (hm : MapAt w M es clock) (hf : findE k es 0 = none) :
    ∃ W, (Instr.mapEntry 45 (.map (some M)) (kvV k)).run Yba.prog w = .ok (.tuple #[.slice none 0 0, .int .i64 clock]) W ∧ Turn M w W ∧ MapAt W M (es ++ [⟨k, .slice none 0 0, clock⟩]) (clock + 1) := by
  have u45 := Yba.underlying45
  have hz : (zeroValue 48).run Yba.prog w = .ok (.slice none 0 0) w := by kernel_rfl
  obtain ⟨h1, h2⟩ := setBlock_turn w M (mapObj (es ++ [⟨k, .slice none 0 0, clock⟩]) (clock + 1)) (mapAt_lt hm)
  refine ⟨_, ?_, h1, h2⟩
  unfold Instr.mapEntry
  simp only [Sem.run_bind, run_underlying u45, Result.andThen_ok, get_map hm, mapObj, run_check, run_findKey, hf, hz]
  have e : ((es.map toE).toArray.push { key := kvV k, val := .slice none 0 0, born := clock }) = ((es ++ [({ k := k, v := .slice none 0 0, born := clock } : Ent)]).map toE).toArray := by
    simp [toE]
  rw [set_map _ hm, e]
  rfl

/-- 'm[k] = ..' at a key that is there: the entry stays; its slice and its stamp come back. -/
theorem findE_spec (k : KV) : ∀ (es : List Ent) (i j : Nat) (v : Value), findE k es i = some (j, v) → ∃ e, i ≤ j ∧ es[j - i]? = some e ∧ e.k = k ∧ e.v = v
  | [], i, j, v, h => by simp [findE] at h
  | e :: es, i, j, v, h => by
    unfold findE at h
    split at h
    · rename_i hk
      simp only [Option.some.injEq, Prod.mk.injEq] at h
      obtain ⟨rfl, rfl⟩ := h
      exact ⟨e, Nat.le_refl _, by simp, ((kvEq_iff _ _).1 hk).symm, rfl⟩
    · obtain ⟨e', h1, h2, h3, h4⟩ := findE_spec k es (i + 1) j v h
      refine ⟨e', by omega, ?_, h3, h4⟩
      rw [show j - i = (j - (i + 1)) + 1 by omega]
      simpa using h2
theorem findE_none (k : KV) : ∀ (es : List Ent) (i : Nat), findE k es i = none → ∀ e ∈ es, e.k ≠ k
  | [], _, _, e, he => by cases he
  | e :: es, i, h, e', he => by
    unfold findE at h
    split at h
    · cases h
    · rename_i hk
      rcases List.mem_cons.1 he with rfl | he
      · intro hh
        exact hk ((kvEq_iff _ _).2 hh.symm)
      · exact findE_none k es (i + 1) h e' he

theorem run_entry_old {M : Nat} {es : List Ent} {clock : Nat} {k : KV} {w : World} {j : Nat} {v : Value} (hm : MapAt w M es clock) (hf : findE k es 0 = some (j, v)) :
    ∃ W e, es[j]? = some e ∧ e.k = k ∧ e.v = v ∧ (Instr.mapEntry 45 (.map (some M)) (kvV k)).run Yba.prog w = .ok (.tuple #[v, .int .i64 e.born]) W ∧ Turn M w W ∧ MapAt W M es clock := by
  have u45 := Yba.underlying45
  obtain ⟨e, _, he, hk, hv⟩ := findE_spec k es 0 j v hf
  rw [Nat.sub_zero] at he
  obtain ⟨h1, h2⟩ := setBlock_turn w M (mapObj es clock) (mapAt_lt hm)
  refine ⟨_, e, he, hk, hv, ?_, h1, h2⟩
  unfold Instr.mapEntry
  have hg : (es.map toE).toArray[j]? = some (toE e) := by simp [he]
  have hs : (Instr.keyThatStays (kvV k) (kvV k)).run Yba.prog w = .ok (kvV k) w := by
    have hb : Instr.sameBits 10000 (kvV k) (kvV k) = true := by
      have : ∀ d, Instr.sameBits (d + 1) (kvV k) (kvV k) = true := fun d => by simp [kvV, Instr.sameBits, beq_toListBytes]
      exact this 9999
    simp [Instr.keyThatStays, hb]
  have hmod : (es.map toE).toArray.modify j (fun x => { x with key := kvV k }) = (es.map toE).toArray := by
    apply Array.ext
    · simp
    · intro i hi1 hi2
      rw [Array.getElem_modify]
      split
      · rename_i hij
        subst hij
        have : (es.map toE).toArray[j] = toE e := by
          have := hg
          rw [Array.getElem?_eq_getElem hi2] at this
          exact Option.some.inj this
        rw [this]
        simp [toE, hk]
      · rfl
  simp only [Sem.run_bind, run_underlying u45, Result.andThen_ok, get_map hm, mapObj, run_check, run_findKey, hf, hg, Option.map_some, Option.getD_some, toE, hk]
  simp only [hs, Result.andThen_ok]
  rw [hmod, set_map _ hm]
  rfl

/-- The store at a stamp. -/
theorem run_entry_store {M : Nat} {es : List Ent} {clock : Nat} {w : World} {j : Nat} {e : Ent} (v' : Value) (hm : MapAt w M es clock) (he : es[j]? = some e) (hb : ∀ i e', es[i]? = some e' → e'.born = e.born → i = j) :
    ∃ W, (Instr.entryStore 45 (.map (some M)) (.int .i64 e.born) v').run Yba.prog w = .ok () W ∧ Turn M w W ∧ MapAt W M (es.set j { e with v := v' }) clock := by
  obtain ⟨h1, h2⟩ := setBlock_turn w M (mapObj (es.set j { e with v := v' }) clock) (mapAt_lt hm)
  refine ⟨_, ?_, h1, h2⟩
  have hj : j < es.length := by
    rcases Nat.lt_or_ge j es.length with h | h
    · exact h
    · simp [List.getElem?_eq_none h] at he
  have hfi : (es.map toE).toArray.findIdx? (fun x => (x.born : Int) == (e.born : Int)) = some j := by
    rw [List.findIdx?_toArray, List.findIdx?_eq_some_iff_getElem]
    refine ⟨by simpa using hj, ?_, fun i hi => ?_⟩
    · have : es[j] = e := by rw [List.getElem?_eq_getElem hj] at he; exact Option.some.inj he
      simp [toE, this]
    · have hil : i < es.length := by omega
      simp only [List.getElem_map, toE, beq_iff_eq]
      intro hh
      have hb' := hb i es[i] (by simp [hil]) (by omega)
      omega
  have hmod : (es.map toE).toArray.modify j (fun x => { x with val := v' }) = ((es.set j { e with v := v' }).map toE).toArray := by
    apply Array.ext
    · simp
    · intro i hi1 hi2
      rw [Array.getElem_modify]
      have hil : i < es.length := by simpa using hi1
      simp only [List.getElem_toArray, List.getElem_map, List.getElem_set]
      have hej : es[j] = e := by rw [List.getElem?_eq_getElem hj] at he; exact Option.some.inj he
      split
      · rename_i hij
        subst hij
        simp [toE, hej]
      · rfl
  unfold Instr.entryStore
  simp only [Sem.run_bind, Result.andThen_ok, get_map hm, mapObj]
  have ha : (asInt (.int .i64 (e.born : Int))).run Yba.prog w = .ok (e.born : Int) w := by rfl
  simp only [ha, Result.andThen_ok, hfi]
  rw [hmod, set_map _ hm]

theorem run_look {M : Nat} {es : List Ent} {clock : Nat} {k : KV} {w : World} (hm : MapAt w M es clock) :
    (Instr.lookup 45 (.map (some M)) (kvV k) false).run Yba.prog w = .ok (match findE k es 0 with | some (_, v) => v | none => .slice none 0 0) w := by
  have u45 := Yba.underlying45
  have hz : (zeroValue 48).run Yba.prog w = .ok (.slice none 0 0) w := by kernel_rfl
  unfold Instr.lookup
  simp only [Sem.run_bind, run_underlying u45, Result.andThen_ok, get_map hm, mapObj, Sem.run_pure, run_check, run_findKey]
  cases h : findE k es 0 with
  | none => simp [hz]
  | some p => simp

theorem erase_map {α β : Type} (f : α → β) : ∀ (l : List α) (j : Nat), (l.map f).eraseIdx j = (l.eraseIdx j).map f
  | [], _ => rfl
  | _ :: _, 0 => rfl
  | a :: l, j + 1 => by
    show f a :: (l.map f).eraseIdx j = f a :: (l.eraseIdx j).map f
    rw [erase_map f l j]

theorem run_drop {M : Nat} {es : List Ent} {clock : Nat} {k : KV} {w : World} (ty : TypeId) (hm : MapAt w M es clock) :
    ∃ W, (Builtin.delete_ #[45, 47] ty #[.map (some M), kvV k]).run Yba.prog w = .ok (.tuple #[]) W ∧ Turn M w W ∧ MapAt W M (match findE k es 0 with | some (j, _) => es.eraseIdx j | none => es) clock := by
  have u45 := Yba.underlying45
  obtain ⟨h1, h2⟩ := setBlock_turn w M (mapObj (match findE k es 0 with | some (j, _) => es.eraseIdx j | none => es) clock) (mapAt_lt hm)
  refine ⟨_, ?_, h1, h2⟩
  unfold Builtin.delete_
  simp only [List.getElem?_toArray, List.getElem?_cons_zero, List.getElem?_cons_succ, Sem.run_bind, run_underlying u45, Result.andThen_ok, get_map hm, mapObj, run_check, run_findKey]
  cases h : findE k es 0 with
  | none =>
    simp only [Sem.run_bind]
    rw [set_map _ hm]
    simp [Result.andThen]
  | some p =>
    obtain ⟨j, v⟩ := p
    obtain ⟨e, _, he, _, _⟩ := findE_spec k es 0 j v h
    rw [Nat.sub_zero] at he
    have hj : j < es.length := by
      rcases Nat.lt_or_ge j es.length with h | h
      · exact h
      · simp [List.getElem?_eq_none h] at he
    have hmod : (es.map toE).toArray.eraseIdxIfInBounds j = ((es.eraseIdx j).map toE).toArray := by
      rw [← erase_map]
      simp [Array.eraseIdxIfInBounds, hj]
    simp only [Sem.run_bind]
    rw [hmod, set_map _ hm]
    simp [Result.andThen]
end Go.Proofs.Ybulkcixi
