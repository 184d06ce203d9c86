/-
  appendDecreased BY ITS CONTRACT.
-/
import Derived.Test.YbulkbdaqFill
import Derived.Deep.RegionLaw
namespace Go.Proofs.Ybulkbdaq
open Go.RowKit

/-- append as one step of a region that draws. -/
theorem stepApp {ops : Array Oper} {o : Oper} {act : Act} {w : World} {K : Act → World → Prop} {Q : Exit → Act → World → Prop} {E : Prop} (hgd : o.guard = none) (s x : Operand)
    (ho : o.op = .call { callee := .builtin .append, args := #[s, x], argTypes := #[22, 22] })
    (B n c : Nat) (a : Option Addr) (xs : List Int) (hs : act.eval s = .slice a n c) (hown : Own w B a n c xs)
    (a2 : Option Addr) (m c2 : Nat) (ys : List Int) (hx : act.eval x = .slice a2 m c2) (hsrc : Has w a2 m c2 ys)
    (hb : n + m ≤ 1099511627776) (hB : B ≤ w.heap.size)
    (h : ∀ a' c' w', Own w' B a' (n + m) c' (xs ++ ys) → w.grownBy w' (blk a) → (blk a' = blk a ∨ blk a' = some w.heap.size) → (a' = none ↔ a = none ∧ m = 0) → K (act.put o.dst (.slice a' (n + m) c')) w') :
    if Region.wanted o (yielded ops act.tmps) = true then Oper.wp Yba.prog o act w K Q else E := by
  have hw : Region.wanted o (yielded ops act.tmps) = true := by simp [Region.wanted, hgd]
  rw [if_pos hw]
  obtain ⟨a', c', w', hr, h1, h2, h3, h4⟩ := run_app w o.type B n c a xs hown a2 m c2 ys hsrc hb hB
  unfold Oper.wp execOp
  simp only [ho, resolve, invoke, builtin, Sem.run_bind, Sem.run_pure, Result.andThen_ok, List.map_toArray, List.map_cons, List.map_nil, hs, hx, hr]
  exact h a' c' w' h1 h2 h3 h4

theorem Has.front {w : World} {a : Option Addr} {n c : Nat} {xs ys : List Int} (h : Has w a n c (xs ++ ys)) (k : Nat) (hk : xs.length = k) : Has w a k c xs := by
  have hl := h.len; have hle := h.le
  rw [List.length_append] at hl
  refine ⟨hk, by omega, h.max, h.nil, fun hc => ?_⟩
  obtain ⟨b, o, e, hcell⟩ := h.at_ hc
  refine ⟨b, o, e, fun i hi => ?_⟩
  rw [hcell i (by omega)]
  simp only [List.getD]
  rw [List.getElem?_append_left (by omega)]

set_option maxRecDepth 20000 in
set_option maxHeartbeats 1000000 in
theorem decreased (w : World) (B : Nat) (a : Option Addr) (n c : Nat) (xs : List Int) (ho : Own w B a n c xs) (hB : B ≤ w.heap.size) (hn : n ≤ 1048576)
    (la : Option Addr) (k lc : Nat) (ini : List Int) (m : Nat) (hl : Has w la (k + 1) lc (ini ++ [(m : Int)])) (hlB : ∀ b, blk la = some b → b < B)
    (ra : Option Addr) (rn rc : Nat) (R : List Int) (hr : Has w ra rn rc R) (hrB : 0 < rc → ∀ b, blk ra = some b → b < B) (hrn : rn ≤ 1048576)
    (g : Nat) (l h : Int) (r : IsR w g l h) (hg : g < B) (grow : Nat) (hgrow : k + 1 + grow ≤ 63) (hm : m < 256) (hlm : l < m) :
    Calls Yba.prog 21 #[.slice a n c, .slice la (k + 1) lc, .int .i64 grow, .slice ra rn rc, .pointer (some ⟨g, 0, none⟩)] w fun e w' => ∃ a' n' c', e = .returned (.slice a' n' c') ∧
      Own w' B a' n' c' (xs ++ (((k + 1 + grow : Nat) : Int) :: (ini ++ (bel l h m :: (List.replicate grow h ++ R))))) ∧ Below B w w' := by
  have hll := hl.le; have hlx := hl.max; have hlen := hl.len
  unfold maxLen at hlx
  have hini : ini.length = k := by simpa using hlen
  obtain ⟨lb, lo, rfl, hcell⟩ := hl.at_ (by omega)
  have hcut := hl.front k hini
  have hlast : w.cell? ⟨lb, lo + k, none⟩ = some (.int .u8 m) := by
    have := hcell k (by omega)
    rw [this]; simp [List.getD, ← hini]
  have hprev := r.prev m hm hlm
  go_enter Yba.func21, Yba.ntmps21
  go_wp2_with (at_builtin; refine wpApp rfl _ _ rfl B _ _ _ _ rfl (ho.alloc _) _ _ _ _ rfl (hasLit _ _) ?_ ?_ ?_)
  · omega
  · simp; omega
  intro a2 c2 w2 g2 q2 k2 _
  have b2 : Below B w w2 := ((Below.refl B w).alloc hB _).grown q2 (by simp; omega) (fun k e => (ho.lt k e).1)
  clear q2 k2
  go_wp2_with (at_builtin; refine wpApp rfl _ _ rfl B _ _ _ _ rfl g2 _ _ _ _ rfl (hcut.below b2 (fun _ => hlB)) ?_ ?_ ?_)
  · omega
  · have := b2.size; omega
  intro a3 c3 w3 g3 q3 k3 _
  have b3 : Below B w w3 := b2.grown q3 (by have := b2.size; omega) (fun k e => (g2.lt k e).1)
  clear q3 k3 g2 b2
  have s3 := b3.size
  have hlast3 : w3.cell? ⟨lb, lo + k, none⟩ = some (.int .u8 m) := (b3.cell (p := ⟨lb, lo + k, none⟩) (hlB lb rfl)).trans hlast
  have hprev3 : w3.cell? ⟨g, 514 + m, none⟩ = some (.int .u8 (bel l h m)) := (b3.cell (p := ⟨g, 514 + m, none⟩) hg).trans hprev
  have hwk : IntKind.i64.wrap (k : Int) = k := IntWalk.i64_in _ (by omega)
  have hk1 : (k : Int) < (k : Int) + 1 := by omega
  have hm1 : (m : Int) < 256 := by omega
  go_wp2
  go_region_law (refine stepApp rfl _ _ rfl B _ _ _ _ rfl (g3.alloc _).drew _ _ _ _ rfl (hasLit _ _).drew (by omega) (by simp; omega) ?_; intro a4 c4 w4 g4 q4 k4 _)
  have b4 : Below B w w4 := ((b3.alloc (by omega) _).drew).grown q4 (by simp; omega) (fun k e => (g3.lt k e).1)
  have r4 := r.below b4 hg
  clear q4 k4 g3 b3 hlast3 hprev3 hlast hprev r s3
  have s4 := b4.size
  have hsl := fun w => run_maxRun w g grow (by omega)
  go_wp2_with (at_builtin; refine wpApp rfl _ _ rfl B _ _ _ _ rfl g4 _ _ _ _ rfl (r4.has grow (by omega)) ?_ ?_ ?_)
  · omega
  · omega
  intro a5 c5 w5 g5 q5 k5 _
  have b5 : Below B w w5 := b4.grown q5 (by omega) (fun k e => (g4.lt k e).1)
  clear q5 k5 g4 b4 s4 hsl
  have s5 := b5.size
  go_wp2_with (at_builtin; refine wpApp rfl _ _ rfl B _ _ _ _ rfl g5 _ _ _ _ rfl (hr.below b5 hrB) ?_ ?_ ?_)
  · omega
  · omega
  intro a6 c6 w6 g6 q6 k6 _
  have b6 : Below B w w6 := b5.grown q6 (by omega) (fun k e => (g5.lt k e).1)
  go_wp2
  go_ret
  exact ⟨_, _, _, rfl, by simpa using g6, b6⟩
end Go.Proofs.Ybulkbdaq
