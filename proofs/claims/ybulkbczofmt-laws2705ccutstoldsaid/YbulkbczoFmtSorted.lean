/-
  slices.SortedFunc(maps.Keys(m), ..) at a map without an entry: nil.
-/
import Derived.Test.YbulkbczoFmtWhen
import Derived.Laws.IdiomRangeMap
namespace Go.Proofs.YbulkbczoFmt
open Go.RowKit Go.Shelf

attribute [local go_sem] Oper.semAt_some

theorem run_range_none (W : World) (a : Nat) (ha : W.heap[a]? = some (.map #[] 0)) : (Instr.range 50 (.map (some a))).run Ybaf.prog W = .ok (.pointer (some ⟨W.heap.size, 0, none⟩)) (W.alloc (.mapIter (some a) 0 #[] 0)) := by
  exact run_range_map W 50 74 23 a #[] 0 (by kernel_rfl) ha

theorem run_next_none (W : World) (a : Nat) (ha : W.heap[a]? = some (.map #[] 0)) (ty : TypeId) : (Instr.next (.pointer (some ⟨W.heap.size, 0, none⟩)) false ty).run Ybaf.prog (W.alloc (.mapIter (some a) 0 #[] 0)) = .ok (.tuple #[.bool false]) (W.alloc (.mapIter (some a) 0 #[] 0)) := by
  rcases run_next_map (P := Ybaf.prog) W ty a 0 0 #[] #[] 0 ha (by simp) (Nat.le_refl _) with ⟨-, h⟩ | ⟨e, he, -⟩
  · exact h
  · simp [leftOf] at he

set_option maxRecDepth 100000 in
set_option maxHeartbeats 1000000 in
theorem keys1_in (F : Fence) (n : Nat) (h23 : F.fn 23) (hro : F.round = none) (l Bm a : Nat) (W : World)
    (hm : W.cell? ⟨Bm, 0, none⟩ = some (.map (some a))) (ha : W.heap[a]? = some (.map #[] 0)) :
    CallsIn F n Ybaf.prog 23 #[.func (.yield l) #[] #[], .pointer (some ⟨Bm, 0, none⟩)] W fun e W' => (∃ v, e = .returned v) ∧ W.grownBy W' none := by
  refine callsIn_of_wp Ybaf.func23 rfl h23 ?_ hro
  simp only [Ybaf.ntmps23, List.size_toArray, List.length_cons, List.length_nil, Nat.reduceAdd, Nat.reduceSub, Array.replicate_succ, Array.replicate_zero, List.push_toArray, List.append_toArray, List.nil_append, List.cons_append]
  have hrg := run_range_none W a ha
  have hnx := run_next_none W a ha
  gi_wp2
  refine wpIn_loop_rounds 1 ?_
  rw [roundsIn_succ]
  gi_wp2
  go_end0
  exact ⟨⟨_, rfl⟩, World.grownBy_alloc W _ none⟩

/-- A range over a function value that calls its yield not once: the loop's own step may do whatever. -/
theorem wpIn_rangeFunc_none {F : Fence} {n : Nat} {P : Program} {g : Operand} {ps : Array Tmp} {assign body : Code} {Q : Exit → Act → World → Prop} {a : Act} {w : World}
    (hro : F.round = none) (h1 : 1 ≤ n) {gf : Nat} {lb : Array Value} (hg : a.eval g = .func (.func gf) #[] lb) (hFg : F.fn gf) (eg : ∀ args w, (callFunc gf args).run P w = .ok (.enter gf args) w)
    (hcall : ∀ (l : Nat) (W : World), w.grownBy W none → CallsIn F (n - 1) P gf (#[.func (.yield l) #[] #[]] ++ lb) W fun e W' => (∃ v, e = .returned v) ∧ W.grownBy W' none)
    (hdone : ∀ (D : Nat) (W : World), w.heap.size ≤ D → w.grownBy W none → W.heap[D]? = some (.deferred (some [])) → Q .normal { a with defers := { target := .collected D, args := #[] } :: a.defers } W) :
    (Code.rangeFunc g ps assign body).wpIn F n P Q a w := by
  refine wpIn_rangeFunc ?_
  intro fn hfn
  rw [hro]
  obtain ⟨rec, hrec⟩ : ∃ rec : LoopState → Option Code → Loop, rec = fun st pe => { state := st, pending := pe, fn, tmps := a.tmps, params := ps, assign, body, defers := w.heap.size } := ⟨_, rfl⟩
  obtain ⟨W1, hW1⟩ : ∃ W1, (w.alloc (.deferred (some []))).alloc (.loop (rec .ready none)) = W1 := ⟨_, rfl⟩
  have hL1 : W1.heap[w.heap.size + 1]? = some (.loop (rec .ready none)) := by
    rw [← hW1]; have := World.alloc_heap_new (w.alloc (.deferred (some []))) (.loop (rec .ready none)); rwa [World.size_alloc] at this
  have hK1 : W1.heap[w.heap.size]? = some (.deferred (some [])) := by
    rw [← hW1]; exact (Below.heap_alloc _ _ _ (by simp)).trans (World.alloc_heap_new w _)
  have hg1 : w.grownBy W1 none := by
    rw [← hW1]; exact ⟨rfl, rfl, rfl, by simp; omega, fun k hk _ => (Below.heap_alloc _ _ k (by simp; omega)).trans (Below.heap_alloc _ _ k hk)⟩
  refine ⟨w.heap.size + 1, [{ target := .collected w.heap.size, args := #[] }], W1, { target := .fn (.func gf) lb, args := #[.func (.yield (w.heap.size + 1)) #[] #[]] }, W1, gf,
    #[.func (.yield (w.heap.size + 1)) #[] #[]] ++ lb, W1, ?_, ?_, ?_, ?_, fun _ => h1, ?_⟩
  · rw [← hW1, hrec]; exact run_enterLoop_outer _ _ _ _ _
  · simp only [resolve, hg]
    simp [go_sem]
  · intro f' hf'; simp [Target.leads] at hf'; subst hf'; exact hFg
  · simp [invoke, go_sem, eg]
  · refine (hcall (w.heap.size + 1) W1 hg1).mono ?_
    rintro e W2 ⟨⟨v, rfl⟩, hg2⟩
    have hl : W2.heap[w.heap.size + 1]? = some (.loop (rec .ready none)) := (hg2.block _ (Array.getElem?_eq_some_iff.1 hL1).1 (by simp)).trans hL1
    have hk : W2.heap[w.heap.size]? = some (.deferred (some [])) := (hg2.block _ (Array.getElem?_eq_some_iff.1 hK1).1 (by simp)).trans hK1
    refine ⟨none, _, by have := run_endLoop (P := P) hl (by rw [hrec]; simp); rw [hrec] at this; exact this, hdone _ _ (Nat.le_refl _) ?_ ((World.putObj_heap_other (by omega)).trans hk)⟩
    have hs1 := hg1.size
    have hs2 := hg2.size
    exact ⟨hg2.1.trans hg1.1, hg2.2.trans hg1.2, hg2.3.trans hg1.3, by simp; omega, fun k hk' _ => by
      rw [World.putObj_heap_other (by omega), hg2.block k (by omega) (by simp), hg1.block k hk' (by simp)]⟩

set_option maxRecDepth 20000 in
set_option maxHeartbeats 1000000 in
theorem keys_in (F : Fence) (n : Nat) (h13 : F.fn 13) (hro : F.round = none) (m : Value) (a : Nat) (hm : m = .map (some a)) (w : World) :
    CallsIn F n Ybaf.prog 13 #[m] w fun e w' => e = .returned (.func (.func 23) #[] #[.pointer (some ⟨w.heap.size, 0, none⟩)]) ∧ w' = w.alloc (.cells #[.map (some a)] 50) := by
  subst hm
  refine callsIn_of_wp Ybaf.func13 rfl h13 ?_ hro
  simp only [Ybaf.ntmps13, List.size_toArray, List.length_cons, List.length_nil, Nat.reduceAdd, Nat.reduceSub, Array.replicate_succ, Array.replicate_zero, List.push_toArray, List.append_toArray, List.nil_append, List.cons_append]
  gi_wp2
  go_ret
  exact ⟨rfl, rfl⟩

set_option maxRecDepth 100000 in
set_option maxHeartbeats 1000000 in
theorem appendSeq_in (F : Fence) (n : Nat) (h27 : F.fn 27) (h23 : F.fn 23) (hro : F.round = none) (h1 : 1 ≤ n) (Bm a : Nat) (w : World) (hBm : w.heap[Bm]? = some (.cells #[.map (some a)] 50)) (ha : w.heap[a]? = some (.map #[] 0)) :
    CallsIn F n Ybaf.prog 27 #[.slice none 0 0, .func (.func 23) #[] #[.pointer (some ⟨Bm, 0, none⟩)]] w fun e w' => e = .returned (.slice none 0 0) ∧ Below w.heap.size w w' := by
  have hlt : Bm < w.heap.size := (Array.getElem?_eq_some_iff.1 hBm).1
  have hlt2 : a < w.heap.size := (Array.getElem?_eq_some_iff.1 ha).1
  refine callsIn_of_wp_marks Ybaf.func27 rfl h27 ?_ hro
  simp only [Ybaf.ntmps27, List.size_toArray, List.length_cons, List.length_nil, Nat.reduceAdd, Nat.reduceSub, Array.replicate_succ, Array.replicate_zero, List.push_toArray, List.append_toArray, List.nil_append, List.cons_append]
  gi_wp2
  have hB0 : Below w.heap.size w (w.alloc (.cells #[.slice none 0 0] 75)) := (Below.refl _ w).alloc (Nat.le_refl _) _
  refine wpIn_rangeFunc_none hro h1 (gf := 23) (lb := #[.pointer (some ⟨Bm, 0, none⟩)]) rfl h23 (enters_of Ybaf.func23 (by kernel_rfl) rfl) ?call ?done
  case call =>
    intro l W hg
    have hb : W.heap[Bm]? = some (.cells #[.map (some a)] 50) := (hg.block Bm (by simp; omega) (by simp)).trans ((hB0.block Bm hlt).trans hBm)
    exact keys1_in F (n - 1) h23 hro l Bm a W (by simp [World.cell?, hb]) ((hg.block a (by simp; omega) (by simp)).trans ((hB0.block a hlt2).trans ha))
  case done =>
    intro D W hD hg hK
    have hb : W.heap[w.heap.size]? = some (.cells #[.slice none 0 0] 75) := (hg.block _ (by simp) (by simp)).trans (World.alloc_heap_new w _)
    have hc : W.cell? ⟨w.heap.size, 0, none⟩ = some (.slice none 0 0) := by simp [World.cell?, hb]
    have hB : Below w.heap.size w W := hB0.grown hg (by simp) (fun k e => by cases e)
    gi_wp2
    refine ⟨by simp, .inl ⟨_, _, rfl, run_takeDeferred hK, ?_⟩⟩
    exact ⟨_, results_tmp rfl _ _ _, rfl, hB.trans (belowK_b (w := w) (Nat.le_refl _) W D _ _ (by simp at hD; omega) hK rfl rfl)⟩

set_option maxRecDepth 20000 in
set_option maxHeartbeats 1000000 in
theorem collect_in (F : Fence) (n : Nat) (h21 : F.fn 21) (h27 : F.fn 27) (h23 : F.fn 23) (hro : F.round = none) (h1 : 2 ≤ n) (Bm a : Nat) (w : World) (hBm : w.heap[Bm]? = some (.cells #[.map (some a)] 50)) (ha : w.heap[a]? = some (.map #[] 0)) :
    CallsIn F n Ybaf.prog 21 #[.func (.func 23) #[] #[.pointer (some ⟨Bm, 0, none⟩)]] w fun e w' => e = .returned (.slice none 0 0) ∧ Below w.heap.size w w' := by
  have h1' : 1 ≤ n := by omega
  have cA := appendSeq_in F (n - 1) h27 h23 hro (by omega) Bm a w hBm ha
  refine callsIn_of_wp Ybaf.func21 rfl h21 ?_ hro
  simp only [Ybaf.ntmps21, List.size_toArray, List.length_cons, List.length_nil, Nat.reduceAdd, Nat.reduceSub, Array.replicate_succ, Array.replicate_zero, List.push_toArray, List.append_toArray, List.nil_append, List.cons_append]
  gi_wp2_with (gi_at_call 27; refine cA.mono ?_; rintro e w' ⟨rfl, hb⟩)
  go_ret
  exact ⟨rfl, hb⟩

set_option maxRecDepth 20000 in
set_option maxHeartbeats 1000000 in
theorem len64_0 (w : World) : Calls Ybaf.prog 41 #[.int .u64 0] w fun e w' => e = .returned (.int .i64 0) ∧ w' = w := by
  go_enter Ybaf.func41, Ybaf.ntmps41
  go_wp2
  go_ret
  exact ⟨by kernel_rfl, rfl⟩

set_option maxRecDepth 20000 in
set_option maxHeartbeats 1000000 in
theorem len_0 (w : World) : Calls Ybaf.prog 29 #[.int .u64 0] w fun e w' => e = .returned (.int .i64 0) ∧ w' = w := by
  go_enter Ybaf.func29, Ybaf.ntmps29
  go_wp2_with (go_at_call 41; refine (len64_0 _).mono ?_; rintro e w' ⟨rfl, rfl⟩)
  go_ret
  exact ⟨rfl, rfl⟩

set_option maxRecDepth 20000 in
set_option maxHeartbeats 1000000 in
theorem insertion_0 (fv : Value) (w : World) : Calls Ybaf.prog 32 #[.slice none 0 0, .int .i64 0, .int .i64 0, fv] w fun e w' => (∃ v, e = .returned v) ∧ w' = w := by
  go_enter Ybaf.func32, Ybaf.ntmps32
  go_wp2
  refine wp_loop_rounds 1 ?_
  rw [Go.rounds_succ]
  go_wp2
  go_end0
  exact ⟨⟨_, rfl⟩, rfl⟩

set_option maxRecDepth 20000 in
set_option maxHeartbeats 1000000 in
theorem pdq_0 (fv : Value) (w : World) : Calls Ybaf.prog 28 #[.slice none 0 0, .int .i64 0, .int .i64 0, .int .i64 0, fv] w fun e w' => (∃ v, e = .returned v) ∧ w' = w := by
  go_enter Ybaf.func28, Ybaf.ntmps28
  go_wp2
  refine wp_loop_rounds 1 ?_
  rw [Go.rounds_succ]
  go_wp2_with (go_at_call 32; refine (insertion_0 _ _).mono ?_; rintro e w' ⟨⟨v, rfl⟩, rfl⟩)
  refine bodyPost_ret (results_none rfl _ _ _) rfl ?_
  exact ⟨⟨_, rfl⟩, rfl⟩

set_option maxRecDepth 20000 in
set_option maxHeartbeats 1000000 in
theorem sortFunc_0 (fv : Value) (w : World) : Calls Ybaf.prog 22 #[.slice none 0 0, fv] w fun e w' => (∃ v, e = .returned v) ∧ w' = w := by
  go_enter Ybaf.func22, Ybaf.ntmps22
  go_wp2_with (first
    | (go_at_call 29; refine (len_0 _).mono ?_; rintro e w' ⟨rfl, rfl⟩)
    | (go_at_call 28; refine (pdq_0 _ _).mono ?_; rintro e w' ⟨⟨v, rfl⟩, rfl⟩))
  go_end0
  exact ⟨⟨_, rfl⟩, rfl⟩

set_option maxRecDepth 20000 in
set_option maxHeartbeats 1000000 in
theorem sorted_in (n : Nat) (h1 : 3 ≤ n) (fv : Value) (Bm a : Nat) (w : World) (hBm : w.heap[Bm]? = some (.cells #[.map (some a)] 50)) (ha : w.heap[a]? = some (.map #[] 0)) :
    CallsIn Fence.wide n Ybaf.prog 12 #[.func (.func 23) #[] #[.pointer (some ⟨Bm, 0, none⟩)], fv] w fun e w' => e = .returned (.slice none 0 0) ∧ Below w.heap.size w w' := by
  have h1' : 1 ≤ n := by omega
  have cC := collect_in Fence.wide (n - 1) trivial trivial trivial rfl (by omega) Bm a w hBm ha
  have cS : ∀ W, CallsIn Fence.wide (n - 1) Ybaf.prog 22 #[.slice none 0 0, fv] W fun e w' => (∃ v, e = .returned v) ∧ w' = W := fun W => callsIn_wide.2 (sortFunc_0 fv W)
  have hf1 : Fence.wide.fn 21 := trivial
  have hf2 : Fence.wide.fn 22 := trivial
  refine callsIn_of_wp Ybaf.func12 rfl trivial ?_ rfl
  simp only [Ybaf.ntmps12, List.size_toArray, List.length_cons, List.length_nil, Nat.reduceAdd, Nat.reduceSub, Array.replicate_succ, Array.replicate_zero, List.push_toArray, List.append_toArray, List.nil_append, List.cons_append]
  gi_wp2_with (first
    | (gi_at_call 21; refine cC.mono ?_; rintro e w' ⟨rfl, hb⟩)
    | (gi_at_call 22; refine (cS _).mono ?_; rintro e w' ⟨⟨v, rfl⟩, rfl⟩))
  go_ret
  exact ⟨rfl, hb⟩
end Go.Proofs.YbulkbczoFmt
