/-
  A partition's rounds: 'when' and the iterator that it hands back, inside a fence.
-/
import Derived.Test.YbulkbczoFmtMap
import Derived.RangeFuncWrites
import Derived.RangeFuncLeaves
import Derived.Shelf.Abstract
import Derived.OwnWalkIn
import Derived.TacticsInMore
import Derived.LoopNIn
import Derived.LoopIn
import Derived.Maps.OwnIn
namespace Go.Proofs.YbulkbczoFmt
open Go.RowKit Go.Shelf

attribute [local go_sem] Oper.semAt_some

/-- 'partition'. -/
def partStr : Value := .string ⟨#[112, 97, 114, 116, 105, 116, 105, 111, 110]⟩

/-- The rounds of a partition. -/
def rounds (r : Int) (s : Nat) : List Int := (List.range s).map (fun (k : Nat) => r + (k : Int))
theorem rounds_succ (r : Int) (s : Nat) : rounds r (s + 1) = rounds r s ++ [r + (s : Int)] := by simp [rounds, List.range_succ]
theorem rounds_length (r : Int) (s : Nat) : (rounds r s).length = s := by simp [rounds]

set_option maxRecDepth 100000 in
set_option maxHeartbeats 1000000 in
theorem when1_in (F : Fence) (n : Nat) (h20 : F.fn 20) (hro : F.round = none) (hn : 1 ≤ n) (l Bn : Nat) (r s : Nat) (hr : r ≤ 1000) (hs : s ≤ 1000) (J Jx : List Int → World → Prop)
    (hY : ∀ pre x W, J pre W → pre.length < s → YieldAt F (n - 1) Ybaf.prog l #[.int .i64 x] W fun e W' =>
      (e = .returned (.bool true) ∧ J (pre ++ [x]) W' ∧ W'.heap[Bn]? = W.heap[Bn]?) ∨ (e = .returned (.bool false) ∧ Jx (pre ++ [x]) W'))
    (W : World) (c3 : W.cell? ⟨Bn, 3, none⟩ = some partStr) (c0 : W.cell? ⟨Bn, 0, none⟩ = some (.int .i64 r)) (c9 : W.cell? ⟨Bn, 9, none⟩ = some (.int .i64 s)) (h0 : J [] W) :
    CallsIn F n Ybaf.prog 20 #[.func (.yield l) #[] #[], .pointer (some ⟨Bn, 0, none⟩)] W fun e W' => (∃ v, e = .returned v) ∧
      ((∃ ys, ys = rounds r s ∧ J ys W') ∨ (∃ pre, True ∧ Jx pre W')) := by
  unfold partStr at c3
  refine callsIn_of_wp Ybaf.func20 rfl h20 ?_ hro
  simp only [Ybaf.ntmps20, List.size_toArray, List.length_cons, List.length_nil, Nat.reduceAdd, Nat.reduceSub, Array.replicate_succ, Array.replicate_zero, List.push_toArray, List.append_toArray, List.nil_append, List.cons_append]
  gi_wp2
  gi_loopw [3] (fun p wr => ∃ k : Nat, p = .int .i64 ((r : Int) + (k : Int)) ∧ k ≤ s ∧ wr.cell? ⟨Bn, 0, none⟩ = some (.int .i64 r) ∧ wr.cell? ⟨Bn, 9, none⟩ = some (.int .i64 s) ∧ J (rounds r k) wr)
    (fun p wr => match p with | .int _ x => ((r : Int) + (s : Int) - x).toNat | _ => 0)
  case atStart =>
    exact ⟨0, by simp, by omega, c0, c9, h0⟩
  case round =>
    obtain ⟨k, rfl, hk, d0, d9, hJs⟩ := hrel
    have e1 : IntKind.i64.wrap ((r : Int) + (s : Int)) = (r : Int) + (s : Int) := IntWalk.i64_in _ (by omega)
    have e2 : IntKind.i64.wrap ((r : Int) + (k : Int) + 1) = (r : Int) + (k : Int) + 1 := IntWalk.i64_in _ (by omega)
    by_cases hlt : k < s
    · have hd : decide ((r : Int) + (k : Int) < (r : Int) + (s : Int)) = true := decide_eq_true (by omega)
      obtain ⟨fn, tmps, assign, body, hy, hR⟩ := hY (rounds r k) ((r : Int) + (k : Int)) wr hJs (by rw [rounds_length]; exact hlt)
      gi_wp2
      refine hR.mono ?_
      rintro e W3 (⟨rfl, hJ3, hk3⟩ | ⟨rfl, hJx3⟩)
      · have q0 : W3.cell? ⟨Bn, 0, none⟩ = some (.int .i64 r) := by rw [← d0]; simp only [World.cell?, hk3]
        have q9 : W3.cell? ⟨Bn, 9, none⟩ = some (.int .i64 s) := by rw [← d9]; simp only [World.cell?, hk3]
        gi_wp2
        go_roundw
        case rel => exact ⟨k + 1, by simp; omega, by omega, q0, q9, by rw [rounds_succ]; exact hJ3⟩
        case measure => simp; omega
      · gi_wp2
        refine bodyPost_ret (results_none rfl _ _ _) rfl ?_
        exact ⟨⟨_, rfl⟩, .inr ⟨_, trivial, hJx3⟩⟩
    · have hd : decide ((r : Int) + (k : Int) < (r : Int) + (s : Int)) = false := decide_eq_false (by omega)
      gi_wp2
      refine bodyPost_ret (results_none rfl _ _ _) rfl ?_
      exact ⟨⟨_, rfl⟩, .inl ⟨_, by rw [show k = s by omega], hJs⟩⟩
/-- The cells of a fault that is a partition. -/
def faultCells (r s : Nat) (nodes : Value) : Array Value := #[.int .i64 r, .pointer none, .int .i64 0, partStr, .int .i64 0, .int .u32 0, .map none, .slice none 0 0, .pointer none, .int .i64 s, nodes]

set_option maxRecDepth 20000 in
set_option maxHeartbeats 1000000 in
theorem when_in (F : Fence) (n : Nat) (h11 : F.fn 11) (hro : F.round = none) (r s : Nat) (nodes : Value) (w : World) :
    CallsIn F n Ybaf.prog 11 #[.agg (faultCells r s nodes)] w fun e w' => e = .returned (.func (.func 20) #[] #[.pointer (some ⟨w.heap.size, 0, none⟩)]) ∧ w' = w.alloc (.cells (faultCells r s nodes) 36) := by
  refine callsIn_of_wp Ybaf.func11 rfl h11 ?_ hro
  simp only [Ybaf.ntmps11, List.size_toArray, List.length_cons, List.length_nil, Nat.reduceAdd, Nat.reduceSub, Array.replicate_succ, Array.replicate_zero, List.push_toArray, List.append_toArray, List.nil_append, List.cons_append]
  gi_wp2
  go_ret
  exact ⟨rfl, rfl⟩

theorem when_stops (F : Fence) (n : Nat) (h20 : F.fn 20) (hro : F.round = none) (hn : 1 ≤ n) (Bn : Nat) (r s : Nat) (hr : r ≤ 1000) (hs : s ≤ 1000) (nodes : Value) (w : World) (hB : w.heap[Bn]? = some (.cells (faultCells r s nodes) 36)) :
    SeqStopsK F n Ybaf.prog 20 #[.pointer (some ⟨Bn, 0, none⟩)] (fun x : Int => #[Value.int .i64 x]) (fun A B => B.heap[Bn]? = A.heap[Bn]?) (fun ys => ys = rounds r s) (fun _ => True) s w := fun l J Jx W hW _ _ hY h0 => by
  have hlt : Bn < w.heap.size := (Array.getElem?_eq_some_iff.1 hB).1
  have hB' : W.heap[Bn]? = some (.cells (faultCells r s nodes) 36) := (hW.block Bn hlt).trans hB
  exact when1_in F n h20 hro hn l Bn r s hr hs J Jx hY W (by simp [World.cell?, hB', faultCells]) (by simp [World.cell?, hB', faultCells]) (by simp [World.cell?, hB', faultCells]) h0
end Go.Proofs.YbulkbczoFmt
