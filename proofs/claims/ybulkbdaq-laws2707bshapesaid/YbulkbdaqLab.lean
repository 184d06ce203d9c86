/-
  zzs2707blab BY ITS CONTRACT.
-/
import Derived.Test.YbulkbdaqRange
import Derived.Laws.IdiomStrings
namespace Go.Proofs.Ybulkbdaq
open Go.RowKit

/-- A string's bytes, as numbers. -/
def nums (s : ByteArray) : List Int := s.data.toList.map fun b => (b.toNat : Int)
theorem nums_length (s : ByteArray) : (nums s).length = s.size := by
  unfold nums; rw [List.length_map, Array.length_toList]; rfl

theorem run_conv (w : World) (s : ByteArray) (hs : s.size ≤ maxLen) : ∃ c w1, (convert 9 22 (.string s)).run Yba.prog w = .ok (.slice (some ⟨w.heap.size, 0, none⟩) s.size c) w1 ∧ Has w1 (some ⟨w.heap.size, 0, none⟩) s.size c (nums s) ∧ Below w.heap.size w w1 ∧ w.heap.size < w1.heap.size := by
  refine ⟨_, _, run_bytes_of_string (P := Yba.prog) w 9 22 5 s Yba.underlying9 Yba.underlying22 Yba.underlying5, ⟨nums_length s, grownCap_ge _ _ _ _, grownCap_le_maxLen _ _ _ _ hs, fun e => (by cases e), fun hc => ⟨w.heap.size, 0, rfl, fun i hi => ?_⟩⟩, ?_, ?_⟩
  · have hi' : i < s.data.size := hi
    rw [Nat.zero_add]
    refine (World.cell?_alloc_mark w.drew _ 5 _ i).trans ?_
    unfold bytesRow nums
    rw [Array.getElem?_append_left (by rw [Array.size_map]; exact hi')]
    simp [List.getD, Array.getElem?_eq_getElem hi']
  · exact (Below.refl _ w).drew.alloc (Nat.le_refl _) _
  · simp

/-- What zzs2707blab makes of a string: the label, then the wire form. -/
def body1 (s : ByteArray) : List Int := if s.size = 0 then [97] else nums s
def labB (s : ByteArray) : List Int := (body1 s).take 20
def lab (s : ByteArray) : List Int := ((labB s).length : Int) :: labB s

theorem body1_pos (s : ByteArray) : 1 ≤ (body1 s).length := by
  unfold body1; split
  · simp
  · rw [nums_length]; omega
theorem labB_len (s : ByteArray) : 1 ≤ (labB s).length ∧ (labB s).length ≤ 20 := by
  have := body1_pos s
  unfold labB; simp; omega

set_option maxRecDepth 20000 in
set_option maxHeartbeats 1000000 in
theorem blab (s : ByteArray) (hs : s.size ≤ maxLen) (w : World) :
    Calls Yba.prog 15 #[.string s] w fun e w' => ∃ a n c, e = .returned (.slice a n c) ∧ Own w' w.heap.size a n c (lab s) ∧ a ≠ none ∧ Below w.heap.size w w' := by
  obtain ⟨c0, w1, hcv, h1, b1, z1⟩ := run_conv w s hs
  have hs' := hs
  unfold maxLen at hs'
  obtain ⟨i, hi, hz0, hz1, hz2⟩ := info_parts info5
  go_enter Yba.func15, Yba.ntmps15
  go_upto_if 9 with fail
  go_cut [3] from 5 (fun v wx => ∃ a n c, v = .slice a n c ∧ Has wx a n c (body1 s) ∧ Below w.heap.size w wx)
  case first =>
    by_cases h0 : s.size = 0
    · go_wp2
      go_meet
      case rel => exact ⟨_, _, _, rfl, by simpa [body1, h0] using hasLit w1 97, b1.alloc (by omega) _⟩
    · go_wp2
      go_meet
      case rel => exact ⟨_, _, _, rfl, by simpa [body1, h0] using h1, b1⟩
  case rest =>
  obtain ⟨a2, n2, c2, hv, h2, b2⟩ := hcut
  subst hv
  clear hcv h1 b1 z1
  have l2 := h2.le; have m2 := h2.max; have n2' := h2.len
  have p2 := body1_pos s
  unfold maxLen at m2
  go_upto_if 13 with fail
  go_cut [3] from 5 (fun v wx => ∃ a n c, v = .slice a n c ∧ Has wx a n c (labB s) ∧ Below w.heap.size w wx)
  case first =>
    by_cases h20 : 20 < n2
    · have hcut := h2.cut 0 20 (by omega) (by omega)
      obtain ⟨b, o, rfl, _⟩ := h2.at_ (by omega)
      go_wp2
      go_meet
      case rel => exact ⟨_, _, _, rfl, by simpa [adr, Addr.add_lit, labB] using hcut, b2⟩
    · go_wp2
      go_meet
      case rel => exact ⟨_, _, _, rfl, by rw [labB, List.take_of_length_le (by omega)]; exact h2, b2⟩
  case rest =>
  obtain ⟨a3, n3, c3, hv, h3, b3⟩ := hcut
  subst hv
  clear h2 b2 l2 m2 n2' p2
  have l3 := h3.le; have m3 := h3.max; have n3' := h3.len
  have p3 := labB_len s
  have z3 := b3.size
  unfold maxLen at m3
  go_wp2_with (at_make; refine wpList_make_own _ rfl _ _ 22 rfl w.heap.size 5 i (.int .u8 0) 1 Yba.underlying22 hi hz0 hz1 _ _ _ (n3 + 1) rfl rfl ?_ ?_ ?_ ?_ ?_)
  · omega
  · rw [hz2]; omega
  · unfold maxLen; omega
  · exact z3
  intro w4 hown hgr
  have g4 : Own w4 w.heap.size (some ⟨wc.heap.size, 0, none⟩) 0 (n3 + 1) [] := Own.made hown
  have b4 : Below w.heap.size w w4 := b3.grown hgr z3 (fun k e => by cases e)
  have h4 : Has w4 a3 n3 c3 (labB s) := h3.grown hgr (fun _ k _ e => by cases e)
  have s4 : ∀ k, blk a3 = some k → k < wc.heap.size := h3.lt (by omega)
  have z4 : wc.heap.size < w4.heap.size := (g4.lt _ rfl).2
  clear hown hgr h3 b3
  go_wp2_with (at_builtin; refine wpApp rfl _ _ rfl w.heap.size _ _ _ _ rfl (g4.alloc _) _ _ _ _ rfl (hasLit _ _) ?_ ?_ ?_)
  · omega
  · simp; omega
  intro a5 c5 w5 g5 q5 k5 nn5
  have b5 : Below w.heap.size w w5 := (b4.alloc (by omega) _).grown q5 (by simp; omega) (fun k e => by simp [blk] at e; omega)
  have h5 : Has w5 a3 n3 c3 (labB s) := (h4.alloc _).grown q5 (fun _ k hk e => by have := s4 k hk; simp [blk] at e; omega)
  clear b4 q5 z4 h4 k5
  have nn : a5 ≠ none := by simpa using nn5
  clear nn5
  go_wp2_with (at_builtin; refine wpApp rfl _ _ rfl w.heap.size _ _ _ _ rfl g5 _ _ _ _ rfl h5 ?_ ?_ ?_)
  · omega
  · exact b5.size
  intro a6 c6 w6 g6 q6 k6 nn6
  have b6 : Below w.heap.size w w6 := b5.grown q6 b5.size (fun k e => (g5.lt k e).1)
  clear q6 k6
  go_wp2
  go_ret
  refine ⟨a6, _, c6, rfl, ?_, ?_, b6⟩
  · unfold lab; rw [n3']; exact g6
  · simpa using nn6
end Go.Proofs.Ybulkbdaq
