/-
  A map from ints, read as a function.
-/
import Derived.Test.YbulkbczoFmtSets
import Derived.MapKept
namespace Go.Proofs.YbulkbczoFmt
open Go.RowKit
open Go.Instr (findNow sameNow)

/-- Entries whose keys are ints, read as a function. -/
def Good (es : List MapEntry) (f : Int → Option Value) : Prop := ∀ (k : Int) (i : Nat), ∃ r, findNow (.int .i64) (.int .i64 k) es i = some r ∧ r.map (·.2) = f k

theorem good_nil : Good [] (fun _ => none) := fun _ _ => ⟨none, rfl, rfl⟩

theorem findNow_app (kind : TypeDesc) (k : Value) : ∀ (es es' : List MapEntry) (i : Nat), findNow kind k es i = some none → findNow kind k (es ++ es') i = findNow kind k es' (i + es.length)
  | [], _, i, _ => by simp
  | e :: es, es', i, h => by
    simp only [findNow, List.cons_append] at h ⊢
    cases hs : sameNow kind k e.key with
    | none => rw [hs] at h; cases h
    | some b =>
      rw [hs] at h
      cases b
      · simp only at h ⊢
        rw [findNow_app kind k es es' (i + 1) h]
        simp; congr 1; omega
      · simp at h
theorem findNow_app_hit (kind : TypeDesc) (k : Value) : ∀ (es es' : List MapEntry) (i : Nat) (r : Nat × Value), findNow kind k es i = some (some r) → findNow kind k (es ++ es') i = some (some r)
  | [], _, i, r, h => by simp [findNow] at h
  | e :: es, es', i, r, h => by
    simp only [findNow, List.cons_append] at h ⊢
    cases hs : sameNow kind k e.key with
    | none => rw [hs] at h; cases h
    | some b =>
      rw [hs] at h
      cases b
      · simp only at h ⊢
        exact findNow_app_hit kind k es es' (i + 1) r h
      · simpa using h

theorem good_push {es : List MapEntry} {f : Int → Option Value} (h : Good es f) (k : Int) (v : Value) (c : Nat) (hk : f k = none) : Good (es ++ [{ key := .int .i64 k, val := v, born := c }]) (fun j => if j = k then some v else f j) := by
  intro j i
  obtain ⟨r, h1, h2⟩ := h j i
  cases r with
  | some r => exact ⟨some r, findNow_app_hit _ _ _ _ _ _ h1, by
      have : j ≠ k := fun e => by subst e; rw [hk] at h2; cases h2
      simp only [if_neg this]; exact h2⟩
  | none =>
    rw [findNow_app _ _ _ _ _ h1]
    by_cases e : j = k
    · subst e
      exact ⟨some (i + es.length, v), by simp [findNow, sameNow], by simp⟩
    · refine ⟨none, ?_, ?_⟩
      · have hb : (j == k) = false := by simpa using e
        simp [findNow, sameNow, hb]
      · simp only [if_neg e]; exact h2

theorem same_ii (a b : Int) : sameNow (.int .i64) (.int .i64 a) (.int .i64 b) = some (a == b) := by simp [sameNow]

/-- A key that is found is the int itself. -/
theorem key_of_same {k : Int} {y : Value} (h : sameNow (.int .i64) (.int .i64 k) y = some true) : y = .int .i64 k := by
  unfold sameNow at h
  split at h <;> simp_all

/-- The entry at the place that is found is turned. -/
theorem find_modify : ∀ (es : List MapEntry) (k : Int) (v : Value) (i j : Nat) (o : Value) (q : Int), findNow (.int .i64) (.int .i64 k) es i = some (some (i + j, o)) →
    findNow (.int .i64) (.int .i64 q) (es.modify j (fun e => { e with key := .int .i64 k, val := v })) i = if q = k then some (some (i + j, v)) else findNow (.int .i64) (.int .i64 q) es i
  | [], k, v, i, j, o, q, h => by simp [findNow] at h
  | e :: es, k, v, i, j, o, q, h => by
    rw [findNow] at h
    cases hs : sameNow (.int .i64) (.int .i64 k) e.key with
    | none => rw [hs] at h; cases h
    | some b =>
      rw [hs] at h
      cases b
      · simp only at h
        have hj : ∃ j', j = j' + 1 := by
          have hge := find_ge _ _ _ _ _ _ h
          exact ⟨j - 1, by omega⟩
        obtain ⟨j', rfl⟩ := hj
        have e1 : i + (j' + 1) = (i + 1) + j' := by omega
        rw [e1] at h
        have ih := find_modify es k v (i + 1) j' o q h
        rw [List.modify_succ_cons]
        by_cases hq : q = k
        · subst hq
          rw [findNow, hs]
          simp only
          rw [ih, if_pos rfl, e1]; simp
        · rw [findNow, if_neg hq, findNow]
          rw [ih, if_neg hq]
      · simp only [Option.some.injEq, Prod.mk.injEq] at h
        obtain ⟨h1, -⟩ := h
        obtain rfl : j = 0 := by omega
        have hk := key_of_same hs
        rw [List.modify_zero_cons, findNow]
        simp only [same_ii]
        by_cases hq : q = k
        · subst hq; simp
        · have hb : (q == k) = false := by simpa using hq
          rw [hb, if_neg hq, findNow, hk, same_ii, hb]
where
  find_ge : ∀ (kind : TypeDesc) (k : Value) (es : List MapEntry) (i m : Nat) (o : Value), findNow kind k es i = some (some (m, o)) → i ≤ m
  | _, _, [], _, _, _, h => by simp [findNow] at h
  | kind, k, e :: es, i, m, o, h => by
    rw [findNow] at h
    split at h
    · simp only [Option.some.injEq, Prod.mk.injEq] at h; omega
    · have := find_ge kind k es (i + 1) m o h; omega
    · cases h

theorem good_modify {es : List MapEntry} {f : Int → Option Value} {k : Int} {v : Value} {j : Nat} {o : Value} (hg : Good es f) (h : ∀ i, findNow (.int .i64) (.int .i64 k) es i = some (some (i + j, o))) :
    Good (es.modify j (fun e => { e with key := .int .i64 k, val := v })) (fun q => if q = k then some v else f q) := by
  intro q i
  rw [find_modify es k v i j o q (h i)]
  by_cases hq : q = k
  · exact ⟨_, if_pos hq, by simp [hq]⟩
  · rw [if_neg hq]; obtain ⟨r, h1, h2⟩ := hg q i
    exact ⟨r, h1, by simp only [if_neg hq]; exact h2⟩

/-- The place that is found does not hang on the count. -/
theorem find_shift : ∀ (kind : TypeDesc) (k : Value) (es : List MapEntry) (i j : Nat) (o : Value), findNow kind k es 0 = some (some (j, o)) → findNow kind k es i = some (some (i + j, o)) := by
  have gen : ∀ (kind : TypeDesc) (k : Value) (es : List MapEntry) (i i' j : Nat) (o : Value), findNow kind k es i' = some (some (i' + j, o)) → findNow kind k es i = some (some (i + j, o)) := by
    intro kind k es
    induction es with
    | nil => intro i i' j o h; simp [findNow] at h
    | cons e es ih =>
      intro i i' j o h
      rw [findNow] at h ⊢
      cases hs : sameNow kind k e.key with
      | none => rw [hs] at h; cases h
      | some b =>
        rw [hs] at h
        cases b
        · simp only at h ⊢
          have hge := find_modify.find_ge _ _ _ _ _ _ h
          have h' : findNow kind k es (i' + 1) = some (some (i' + 1 + (j - 1), o)) := by rw [h]; congr 3; omega
          rw [ih (i + 1) (i' + 1) (j - 1) o h']; congr 3; omega
        · simp only [Option.some.injEq, Prod.mk.injEq] at h ⊢
          exact ⟨by omega, h.2⟩
  intro kind k es i j o h
  exact gen kind k es i 0 j o (by simpa using h)

/-- The map at a block, read as a function. -/
def CutMap (w : World) (mb : Nat) (f : Int → Option Value) : Prop := ∃ es ck, w.heap[mb]? = some (.map es ck) ∧ Good es.toList f

theorem CutMap.kept {w w' : World} {mb : Nat} {f : Int → Option Value} {row : Option Nat} (h : CutMap w mb f) (hg : w.grownBy w' row) (hne : some mb ≠ row) : CutMap w' mb f := by
  obtain ⟨es, ck, hb, hg'⟩ := h
  exact ⟨es, ck, (hg.block mb (Array.getElem?_eq_some_iff.1 hb).1 hne).trans hb, hg'⟩
theorem CutMap.lt {w : World} {mb : Nat} {f : Int → Option Value} (h : CutMap w mb f) : mb < w.heap.size := by
  obtain ⟨es, ck, hb, -⟩ := h
  exact (Array.getElem?_eq_some_iff.1 hb).1

theorem under52 : Ybaf.prog.underlying 52 = some (.map 3 31) := by kernel_rfl
theorem under3 : Ybaf.prog.underlying 3 = some (.int .i64) := by kernel_rfl

theorem find_stays {es : Array MapEntry} {k : Int} {j : Nat} {o : Value} (h : findNow (.int .i64) (.int .i64 k) es.toList 0 = some (some (j, o))) : ∃ e, es[j]? = some e ∧ e.key = .int .i64 k := by
  have gen : ∀ (l : List MapEntry) (i m : Nat), findNow (.int .i64) (.int .i64 k) l i = some (some (i + m, o)) → ∃ e, l[m]? = some e ∧ e.key = .int .i64 k := by
    intro l
    induction l with
    | nil => intro i m h; simp [findNow] at h
    | cons e l ih =>
      intro i m h
      rw [findNow] at h
      cases hs : sameNow (.int .i64) (.int .i64 k) e.key with
      | none => rw [hs] at h; cases h
      | some b =>
        rw [hs] at h
        cases b
        · simp only at h
          have hge := find_modify.find_ge _ _ _ _ _ _ h
          obtain ⟨e', h1, h2⟩ := ih (i + 1) (m - 1) (by rw [h]; congr 3; omega)
          refine ⟨e', ?_, h2⟩
          have : m = (m - 1) + 1 := by omega
          rw [this]; simpa using h1
        · simp only [Option.some.injEq, Prod.mk.injEq] at h
          obtain rfl : m = 0 := by omega
          exact ⟨e, rfl, key_of_same hs⟩
  obtain ⟨e, h1, h2⟩ := gen es.toList 0 j (by simpa using h)
  exact ⟨e, by simpa using h1, h2⟩

theorem run_upd {w : World} {mb : Nat} {f : Int → Option Value} (h : CutMap w mb f) (k : Int) (v : Value) : ∃ w', (Instr.mapUpdate 52 (.map (some mb)) (.int .i64 k) v).run Ybaf.prog w = .ok () w' ∧ CutMap w' mb (fun j => if j = k then some v else f j) ∧ w.grownBy w' (some mb) := by
  obtain ⟨es, ck, hb, hg⟩ := h
  obtain ⟨r, h1, h2⟩ := hg k 0
  have hk : MapKept.IsKey (.int .i64) (.int .i64 k) := rfl
  cases r with
  | none =>
    have hf : f k = none := h2.symm
    refine ⟨_, by simp [Instr.mapUpdate, run_underlying under52, MapKept.run_getObj_map hb, MapKept.run_checkKey under3 hk, MapKept.run_findKey under3 h1, MapKept.run_setObj_map _ hb, Result.andThen]; rfl, ⟨_, _, (MapKept.heap_set hb).1, ?_⟩, ?_⟩
    · rw [Array.toList_push]; exact good_push hg k v ck hf
    · exact ⟨rfl, rfl, rfl, by simp, fun b _ hne => (MapKept.heap_set hb).2 b (fun q => hne (by rw [q]))⟩
  | some r =>
    obtain ⟨j, o⟩ := r
    obtain ⟨e, he, hek⟩ := find_stays h1
    refine ⟨_, by simp [Instr.mapUpdate, run_underlying under52, MapKept.run_getObj_map hb, MapKept.run_checkKey under3 hk, MapKept.run_findKey under3 h1, he, hek, MapKept.run_keyThatStays hk, MapKept.run_setObj_map _ hb, Result.andThen]; rfl, ⟨_, _, (MapKept.heap_set hb).1, ?_⟩, ?_⟩
    · rw [Array.toList_modify]; exact good_modify hg (fun i => find_shift _ _ _ i j o h1)
    · exact ⟨rfl, rfl, rfl, by simp, fun b _ hne => (MapKept.heap_set hb).2 b (fun q => hne (by rw [q]))⟩

theorem run_look {w : World} {mb : Nat} {f : Int → Option Value} (h : CutMap w mb f) (k : Int) : (Instr.lookup 52 (.map (some mb)) (.int .i64 k) true).run Ybaf.prog w = .ok (.tuple #[(f k).getD (.agg #[.int .i64 0, .int .u32 0]), .bool (f k).isSome]) w := by
  obtain ⟨es, ck, hb, hg⟩ := h
  obtain ⟨r, h1, h2⟩ := hg k 0
  have hk : MapKept.IsKey (.int .i64) (.int .i64 k) := rfl
  have hz : (zeroValue 31).run Ybaf.prog w = .ok (.agg #[.int .i64 0, .int .u32 0]) w := by kernel_rfl
  rw [← h2]
  cases r with
  | none => simp [Instr.lookup, run_underlying under52, MapKept.run_getObj_map hb, MapKept.run_checkKey under3 hk, MapKept.run_findKey under3 h1, hz, Result.andThen]
  | some r => simp [Instr.lookup, run_underlying under52, MapKept.run_getObj_map hb, MapKept.run_checkKey under3 hk, MapKept.run_findKey under3 h1, Result.andThen]
end Go.Proofs.YbulkbczoFmt
