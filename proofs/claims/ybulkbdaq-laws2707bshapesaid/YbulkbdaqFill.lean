/-
  appendFill BY ITS CONTRACT.
-/
import Derived.Test.YbulkbdaqChild
namespace Go.Proofs.Ybulkbdaq
open Go.RowKit

/-- The block g holds an octetRange of the octets l..h: what the derivations read of it. -/
structure IsR (w : World) (g : Nat) (l h : Int) : Prop where
  mn : w.cell? ⟨g, 0, none⟩ = some (.int .u8 l)
  prev : ∀ j : Nat, j < 256 → l < j → w.cell? ⟨g, 514 + j, none⟩ = some (.int .u8 (bel l h j))
  run : ∀ j : Nat, j < 63 → w.cell? ⟨g, 770 + j, none⟩ = some (.int .u8 h)

theorem IsR.carry {w w' : World} {g : Nat} {l h : Int} (r : IsR w g l h) (hb : w'.heap[g]? = w.heap[g]?) : IsR w' g l h :=
  ⟨(World.cell?_of_block (a := ⟨g, 0, none⟩) hb).trans r.mn, fun j h1 h2 => (World.cell?_of_block (a := ⟨g, 514 + j, none⟩) hb).trans (r.prev j h1 h2), fun j h1 => (World.cell?_of_block (a := ⟨g, 770 + j, none⟩) hb).trans (r.run j h1)⟩
theorem IsR.lt {w : World} {g : Nat} {l h : Int} (r : IsR w g l h) : g < w.heap.size := World.block_lt_of_cell? w _ r.mn
theorem IsR.below {w w' : World} {g B : Nat} {l h : Int} (r : IsR w g l h) (hb : Below B w w') (hg : g < B) : IsR w' g l h := r.carry (hb.block g hg)
theorem IsR.has {w : World} {g : Nat} {l h : Int} (r : IsR w g l h) (k : Nat) (hk : k ≤ 63) : Has w (some ⟨g, 770, none⟩) k 63 (List.replicate k h) :=
  ⟨by simp, hk, by unfold maxLen; omega, fun e => (by cases e), fun _ => ⟨g, 770, rfl, fun i hi => by rw [r.run i (by omega)]; simp [List.getD, hi]⟩⟩

/-- What appendFill puts in front: one label of h. -/
def fillL (k : Nat) (h : Int) : List Int := if 2 ≤ k then ((k - 1 : Nat) : Int) :: List.replicate (k - 1) h else []

theorem run_maxRun (w : World) (g k : Nat) (hk : k ≤ 63) : (Instr.sliceAt 33 (.pointer (some ⟨g, 770, none⟩)) none (some (.int .i64 k)) none).run Yba.prog w = .ok (.slice (some ⟨g, 770, none⟩) k 63) w := by
  have hs : (sizeOf (Yba.prog.elem 33)).run Yba.prog w = .ok 1 w := by kernel_rfl
  have ha : Yba.prog.arrayLen 33 = 63 := by kernel_rfl
  rw [run_sliceAt_array_h w 33 ⟨g, 770, none⟩ (by kernel_rfl) .i64 k (by omega) (by rw [ha]; omega), hs, ha]
  simp [slicedAt, Result.andThen, Addr.add_lit]

theorem fillL_lo (k : Nat) (h : Int) (hk : k < 2) : fillL k h = [] := by unfold fillL; rw [if_neg (by omega)]
theorem fillL_hi (k : Nat) (h : Int) (hk : 1 ≤ k) : fillL (k + 1) h = (k : Int) :: List.replicate k h := by unfold fillL; rw [if_pos (by omega)]; simp

set_option maxRecDepth 20000 in
set_option maxHeartbeats 1000000 in
theorem fill_none (w : World) (B : Nat) (a : Option Addr) (n c : Nat) (xs : List Int) (ho : Own w B a n c xs) (g : Nat) (h : Int) (room : Nat) (hr : room < 2) :
    Calls Yba.prog 18 #[.slice a n c, .int .i64 room, .pointer (some ⟨g, 0, none⟩)] w fun e w' => ∃ a' n' c', e = .returned (.slice a' n' c') ∧ Own w' B a' n' c' (xs ++ fillL room h) ∧ Below B w w' := by
  go_enter Yba.func18, Yba.ntmps18
  go_wp2
  refine wp_loop_rounds 1 ?_
  rw [rounds_succ]
  go_wp2
  go_ret
  exact ⟨_, _, _, rfl, by rw [fillL_lo _ _ hr, List.append_nil]; exact ho, Below.refl _ _⟩

set_option maxRecDepth 20000 in
set_option maxHeartbeats 1000000 in
theorem fill_mid (w : World) (B : Nat) (a : Option Addr) (n c : Nat) (xs : List Int) (ho : Own w B a n c xs) (hB : B ≤ w.heap.size) (hn : n ≤ 1048576) (g : Nat) (l h : Int) (r : IsR w g l h) (hg : g < B) (k : Nat) (h1 : 1 ≤ k) (h2 : k ≤ 62) :
    Calls Yba.prog 18 #[.slice a n c, .int .i64 (k + 1), .pointer (some ⟨g, 0, none⟩)] w fun e w' => ∃ a' n' c', e = .returned (.slice a' n' c') ∧ Own w' B a' n' c' (xs ++ fillL (k + 1) h) ∧ Below B w w' := by
  have em : ((k : Int) + 1) % 64 = k + 1 := by omega
  have ed : ((k : Int) + 1) / 64 = 0 := by omega
  have hsl := fun w => run_maxRun w g k (by omega)
  go_enter Yba.func18, Yba.ntmps18
  go_wp2_with (at_builtin; refine wpApp rfl _ _ rfl B _ _ _ _ rfl (ho.alloc _) _ _ _ _ rfl (hasLit _ _) ?_ ?_ ?_)
  · omega
  · simp; omega
  intro a2 c2 w2 g2 q2 k2 _
  have b2 : Below B w w2 := ((Below.refl B w).alloc hB _).grown q2 (by simp; omega) (fun k e => (ho.lt k e).1)
  have r2 := r.below b2 hg
  clear q2 k2 r
  go_wp2_with (at_builtin; refine wpApp rfl _ _ rfl B _ _ _ _ rfl g2 _ _ _ _ rfl (r2.has k (by omega)) ?_ ?_ ?_)
  · omega
  · have := b2.size; omega
  intro a3 c3 w3 g3 q3 k3 _
  have b3 : Below B w w3 := b2.grown q3 (by have := b2.size; omega) (fun k e => (g2.lt k e).1)
  clear q3 k3 g2
  go_wp2
  refine wp_loop_rounds 1 ?_
  rw [rounds_succ]
  go_wp2
  go_ret
  refine ⟨_, _, _, rfl, ?_, b3⟩
  rw [fillL_hi k h h1]
  simpa using g3

set_option maxRecDepth 20000 in
set_option maxHeartbeats 1000000 in
theorem fill_full (w : World) (B : Nat) (a : Option Addr) (n c : Nat) (xs : List Int) (ho : Own w B a n c xs) (hB : B ≤ w.heap.size) (hn : n ≤ 1048576) (g : Nat) (l h : Int) (r : IsR w g l h) (hg : g < B) :
    Calls Yba.prog 18 #[.slice a n c, .int .i64 64, .pointer (some ⟨g, 0, none⟩)] w fun e w' => ∃ a' n' c', e = .returned (.slice a' n' c') ∧ Own w' B a' n' c' (xs ++ fillL 64 h) ∧ Below B w w' := by
  go_enter Yba.func18, Yba.ntmps18
  go_wp2
  refine wp_loop_rounds 2 ?_
  rw [rounds_succ]
  go_wp2_with (at_builtin; refine wpApp rfl _ _ rfl B _ _ _ _ rfl (ho.alloc _) _ _ _ _ rfl (hasLit _ _) ?_ ?_ ?_)
  · omega
  · simp; omega
  intro a2 c2 w2 g2 q2 k2 _
  have b2 : Below B w w2 := ((Below.refl B w).alloc hB _).grown q2 (by simp; omega) (fun k e => (ho.lt k e).1)
  have r2 := r.below b2 hg
  clear q2 k2 r
  go_wp2_with (at_builtin; refine wpApp rfl _ _ rfl B _ _ _ _ rfl g2 _ _ _ _ rfl (r2.has 63 (by omega)) ?_ ?_ ?_)
  · omega
  · have := b2.size; omega
  intro a3 c3 w3 g3 q3 k3 _
  have b3 : Below B w w3 := b2.grown q3 (by have := b2.size; omega) (fun k e => (g2.lt k e).1)
  clear q3 k3 g2
  go_wp2
  rw [rounds_succ]
  go_wp2
  go_ret
  refine ⟨_, _, _, rfl, ?_, b3⟩
  rw [fillL_hi 63 h (by omega)]
  simpa using g3

/-- appendFill, for every room up to one full label. -/
theorem fill_any (w : World) (B : Nat) (a : Option Addr) (n c : Nat) (xs : List Int) (ho : Own w B a n c xs) (hB : B ≤ w.heap.size) (hn : n ≤ 1048576) (g : Nat) (l h : Int) (r : IsR w g l h) (hg : g < B) (room : Nat) (hr : room ≤ 64) :
    Calls Yba.prog 18 #[.slice a n c, .int .i64 room, .pointer (some ⟨g, 0, none⟩)] w fun e w' => ∃ a' n' c', e = .returned (.slice a' n' c') ∧ Own w' B a' n' c' (xs ++ fillL room h) ∧ Below B w w' := by
  by_cases h1 : room < 2
  · exact fill_none w B a n c xs ho g h room h1
  by_cases h2 : room = 64
  · subst h2
    exact fill_full w B a n c xs ho hB hn g l h r hg
  obtain ⟨k, rfl⟩ : ∃ k, room = k + 1 := ⟨room - 1, by omega⟩
  exact fill_mid w B a n c xs ho hB hn g l h r hg k (by omega) (by omega)

end Go.Proofs.Ybulkbdaq
