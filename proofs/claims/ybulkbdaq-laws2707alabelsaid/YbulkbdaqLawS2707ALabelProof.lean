/-
  The proof of 'Rows.LawS2707ALabelSaid'. The frame was laid by the guide's proof-skeleton; the walk is typed by hand.
-/
import Derived.Test.YbulkbdaqRows
import Derived.Test.YbulkbdaqBase2
import Derived.WalkKit
import Derived.WalkSpells
import Derived.WalkLawsBesides
import Derived.ProofKit
import Derived.OpenShut
import Derived.ShutString
import Derived.ChangeOld
import Derived.Below
namespace Go.Proofs.Ybulkbdaq.lawS2707ALabel
open Go.ChangeShapes Go.WideShapes Go.ChangeAt Go.RowKit
open Go.ChangeMaps (open_string shut_string)
set_option linter.unusedVariables false

theorem own : ownKnob Yba.prog.godebug = none := by kernel_rfl
theorem laidOut : laidOutB Yba.prog = true := by kernel_rfl

/-- WHAT THE WALK IS TOLD OF A SLICE OF INTEGERS THAT CAME IN: it is nil; or it leads to a row of 'cap' cells, the numbers 'zs' (the first 'len' are its elements, the rest its spare room), each fitting its kind. -/
def IsRow (k : IntKind) (w : World) (a : Option Addr) (len cap : Nat) (zs : List Int) : Prop :=
  (a = none ∧ len = 0 ∧ cap = 0 ∧ zs = []) ∨
  ∃ x, a = some x ∧ len ≤ cap ∧ cap ≤ maxLen ∧ zs.length = cap ∧ (∀ i, i < zs.length → w.cell? (x.add i) = some (.int k (zs.getD i 0))) ∧ ∀ n ∈ zs, (Lit.int k n).wf = true

set_option maxHeartbeats 1000000 in
theorem label_core (w : World) (A : Option Addr) (N C : Nat) (L : List Int) (hA : Has w A N C L) (hN : N ≤ 1024) (a1 : Option Addr) (n1 c1 : Nat) (l1 : List Int) (h1 : Has w a1 n1 c1 l1) (hs1 : n1 ≤ 1024) (ap : Int) :
    Calls Yba.prog 3 #[.slice A N C, .slice a1 n1 c1, .int .i64 ap] w fun e w' => e = .returned (.bool true) ∧ Below w.heap.size w w' := by
  have eA := hA.le; have e1 := h1.le; have mA := hA.max; have m1 := h1.max
  unfold maxLen at mA m1
  obtain ⟨i, hi, hz0, hz1, hz2⟩ := info_parts info5
  go_enter Yba.func3, Yba.ntmps3
  go_upto_if 20 with fail
  go_cut [0] from 10 (fun v wx => w = wx ∧ ∃ a n c l, v = .slice a n c ∧ Has w a n c l ∧ n ≤ 255)
  case first =>
    by_cases h255 : 255 < N
    · have hcut := hA.cut 0 255 (by omega) (by omega)
      obtain ⟨b, o, rfl, _⟩ := hA.at_ (by omega)
      go_wp2
      go_meet
      case rel => exact ⟨rfl, _, _, _, _, rfl, by simpa [adr, Addr.add_lit] using hcut, Nat.le_refl _⟩
    · go_wp2
      go_meet
      case rel => exact ⟨rfl, _, _, _, _, rfl, hA, by omega⟩
  case rest =>
  obtain ⟨hwc, a0, n0, c0, l0, hv, h0, hs0⟩ := hcut
  subst hwc
  subst hv
  have e0 := h0.le; have m0 := h0.max
  unfold maxLen at m0
  clear hA eA mA hN
  go_wp2_with (at_make; refine wpList_make_own _ rfl _ _ 22 rfl w.heap.size 5 i (.int .u8 0) 1 Yba.underlying22 hi hz0 hz1 _ _ _ (1 + n0 + n1) rfl rfl ?_ ?_ ?_ ?_ ?_)
  · omega
  · rw [hz2]; omega
  · unfold maxLen; omega
  · exact Nat.le_refl _
  intro w1 hown hgr
  have g1 : Own w1 w.heap.size (some ⟨w.heap.size, 0, none⟩) 0 (1 + n0 + n1) [] := Own.made hown
  have b1 : Below w.heap.size w w1 := (Below.refl _ _).grown hgr (Nat.le_refl _) (fun k e => by cases e)
  have z1 : w.heap.size < w1.heap.size := (g1.lt _ rfl).2
  clear hown hgr
  go_wp2_with (at_builtin; refine wpApp rfl _ _ rfl w.heap.size _ _ _ _ rfl (g1.alloc _) _ _ _ _ rfl (hasLit _ _) ?_ ?_ ?_)
  · omega
  · simp; omega
  intro a2 c2 w2 g2 q2 k2 _
  have b2 : Below w.heap.size w w2 := (b1.alloc (by omega) _).grown q2 (by simp; omega) (fun k e => by simp [blk] at e; omega)
  clear g1 b1 q2 z1 k2
  go_wp2_with (at_builtin; refine wpApp rfl _ _ rfl w.heap.size _ _ _ _ rfl g2 _ _ _ _ rfl (h0.belowAll b2) ?_ ?_ ?_)
  · omega
  · exact b2.size
  intro a3 c3 w3 g3 q3 k3 _
  have b3 : Below w.heap.size w w3 := b2.grown q3 b2.size (fun k e => (g2.lt k e).1)
  clear g2 b2 q3 k3
  go_wp2_with (at_builtin; refine wpApp rfl _ _ rfl w.heap.size _ _ _ _ rfl g3 _ _ _ _ rfl (h1.belowAll b3) ?_ ?_ ?_)
  · omega
  · exact b3.size
  intro a4 c4 w4 g4 q4 k4 _
  have b4 : Below w.heap.size w w4 := b3.grown q4 b3.size (fun k e => (g3.lt k e).1)
  clear g3 b3 q4 k4
  have nn : (adr a4 1 c4).isNone = false := by
    have hne : ¬ adr a4 1 c4 = none := fun e => ‹¬ a4 = none› ((adr_none _ _ _).1 e)
    cases h : adr a4 1 c4 with
    | none => exact absurd h hne
    | some _ => rfl
  have q22 := fun (w : World) (a : Option Addr) (n c n' c' : Nat) => Lib.run_eql_slice_nil (P := Yba.prog) w 22 5 a n c n' c' Yba.underlying22
  go_wp2_with fail
  all_goals
    refine (split_parts w4 a4 n0 n1 c4 l0 l1 g4.has hs0 h0.len _ ?_).mono ?_
    · simp_all; try omega
    rintro e w5 ⟨rfl, p1, p2, q, rfl⟩
    go_wp2_with fail
    refine (equal_same _ _ _ _ _ _ _ l0 p1 ((h0.belowAll b4).drewN q)).mono ?_
    rintro e w6 ⟨rfl, rfl⟩
    go_wp2_with fail
    refine (equal_same _ _ _ _ _ _ _ l1 p2 ((h1.belowAll b4).drewN q)).mono ?_
    rintro e w6 ⟨rfl, rfl⟩
    go_wp2
    go_ret
    exact ⟨rfl, below_drewN b4 q⟩

/-! ### STEP 1: THE WALK: the Go text returns true, AND WRITES NOTHING THAT WAS THERE: 'Below w.heap.size w w'' (Derived/Below.lean: '.refl', '.alloc', '.drew', '.setCell' at a new block, '.trans'). Open each 'IsRow' by 'rcases' AHEAD of 'go_enter'; part every test ahead of the walk. -/
theorem walk (a0 : Option Addr) (len0 cap0 : Nat) (z0 : List Int) (a1 : Option Addr) (len1 cap1 : Nat) (z1 : List Int) (a2 : Int) (w : World) (w0 : IsRow .u8 w a0 len0 cap0 z0) (w1 : IsRow .u8 w a1 len1 cap1 z1) (w2 : (Lit.int .i64 a2).wf = true) :
    Calls Yba.prog 3 #[.slice a0 len0 cap0, .slice a1 len1 cap1, .int .i64 a2] w fun e w' => e = .returned (.bool true) ∧ Below w.heap.size w w' := by
  obtain ⟨h0, _, _⟩ := has_of_row w0
  obtain ⟨h1, _, _⟩ := has_of_row w1
  have e0 := h0.le; have e1 := h1.le; have m0 := h0.max; have m1 := h1.max
  unfold maxLen at m0 m1
  by_cases big0 : 1024 < len0
  · go_enter Yba.func3, Yba.ntmps3
    go_wp2
    go_ret
    exact ⟨rfl, Below.refl _ _⟩
  by_cases big1 : 1024 < len1
  · go_enter Yba.func3, Yba.ntmps3
    go_wp2
    go_ret
    exact ⟨rfl, Below.refl _ _⟩
  exact label_core w a0 len0 cap0 _ h0 (by omega) a1 len1 cap1 _ h1 (by omega) _

/-! ### THE ROW's STEP: WRITTEN OUT: LEAVE IT -/
set_option maxRecDepth 100000 in
theorem lifted (os : Os) (started : os.Started) (H : Type) (enc : TypeId × Value → H) :
    ReturnsInHanded {} Yba.checked os 3 .any (Rows.lawS2707ALabelSpec.pre6 enc Yba.prog Yba.f3 Rows.lawS2707ALabelRow.domain false) (Rows.lawS2707ALabelSpec.post enc Yba.prog Yba.f3 false true false false) := by
  refine returnsInHanded_of_change (C := Yba.checked) own started (by kernel_rfl) Yba.func3
    (ChangeSpec.witness6 (enc := enc) (C := Yba.checked) false ⟨#[], #[.slice none 0 0, .slice none 0 0, .int .i64 0], []⟩ 8 (by kernel_rfl) (by kernel_rfl) (by kernel_rfl) (by kernel_rfl)) ?_
  intro W base args ds gs before hval0 hW hcnd _
  have hval : ∀ (j : Nat) t v, Yba.f3.params[j]? = some t → args[j]? = some v → Value.okWide Yba.prog W .any base t v := hval0
  have hW' := hW
  obtain ⟨p, q, hA0, hV, rfl, hfz, hnd⟩ := hW
  have hA : DataW.TrodAll enc Yba.prog W 0 (fun _ => true) true Yba.f3.params.toList args.toList ds p := hA0
  rw [Yba.params3] at hA hval
  obtain ⟨v0, vs0, d0, ds0, p0, q0, hargs, rfl, rfl, h0, r0⟩ := trodAll_cons hA
  obtain ⟨v1, vs1, d1, ds1, p1, q1, rfl, rfl, rfl, h1, r1⟩ := trodAll_cons r0
  obtain ⟨v2, vs2, d2, ds2, p2, q2, rfl, rfl, rfl, h2, r2⟩ := trodAll_cons r1
  obtain ⟨rfl, rfl, rfl⟩ := trodAll_nil r2
  obtain rfl : args = #[v0, v1, v2] := by cases args; simp_all
  obtain ⟨rfl, rfl⟩ := trodVars_none hV
  obtain ⟨a0, len0, cap0, rfl⟩ := okWide_slice Yba.underlying22 (hval 0 22 v0 rfl rfl)
  have k0 := h0
  have lt0 : ∀ x ∈ p0, x.block < W.heap.size := by obtain ⟨m, hm⟩ := k0; exact DataW.trod_lt m _ _ _ hm
  obtain ⟨z0, w0⟩ : ∃ zs, IsRow .u8 W a0 len0 cap0 zs := by
    obtain ⟨fuel, hf⟩ := h0
    rcases open_ints Yba.underlying22 Yba.underlying5 (by kernel_rfl) hf with ⟨hcs, _⟩ | ⟨x, l, c, zs, hcs, _, hl, hm, hz, _, hcell, hwz⟩
    · simp [Value.cells] at hcs
      obtain ⟨rfl, rfl, rfl⟩ := hcs
      exact ⟨[], .inl ⟨rfl, rfl, rfl, rfl⟩⟩
    · simp [Value.cells] at hcs
      obtain ⟨rfl, rfl, rfl⟩ := hcs
      exact ⟨zs, .inr ⟨_, rfl, hl, hm, by simpa using hz, hcell, hwz⟩⟩
  obtain ⟨a1, len1, cap1, rfl⟩ := okWide_slice Yba.underlying22 (hval 1 22 v1 rfl rfl)
  have k1 := h1
  have lt1 : ∀ x ∈ p1, x.block < W.heap.size := by obtain ⟨m, hm⟩ := k1; exact DataW.trod_lt m _ _ _ hm
  obtain ⟨z1, w1⟩ : ∃ zs, IsRow .u8 W a1 len1 cap1 zs := by
    obtain ⟨fuel, hf⟩ := h1
    rcases open_ints Yba.underlying22 Yba.underlying5 (by kernel_rfl) hf with ⟨hcs, _⟩ | ⟨x, l, c, zs, hcs, _, hl, hm, hz, _, hcell, hwz⟩
    · simp [Value.cells] at hcs
      obtain ⟨rfl, rfl, rfl⟩ := hcs
      exact ⟨[], .inl ⟨rfl, rfl, rfl, rfl⟩⟩
    · simp [Value.cells] at hcs
      obtain ⟨rfl, rfl, rfl⟩ := hcs
      exact ⟨zs, .inr ⟨_, rfl, hl, hm, by simpa using hz, hcell, hwz⟩⟩
  obtain ⟨a2, rfl, rfl, rfl, w2⟩ := open_int Yba.underlying3 (hval 2 3 v2 rfl rfl) h2
  clear hA0 hval0
  refine (walk a0 len0 cap0 z0 a1 len1 cap1 z1 a2 W w0 w1 w2).mono fun e W' ⟨he, bel⟩ => ?_
  subst he
  exact ⟨_, rfl, _, _, _, [], _, [], hW', trodAll_mk1 (shut_bool Yba.underlying4 _), (trodAll_cons_mk (Below.trod laidOut (by kernel_rfl) (of_decide_eq_true (by kernel_rfl)) k0 bel lt0) (trodAll_cons_mk (Below.trod laidOut (by kernel_rfl) (of_decide_eq_true (by kernel_rfl)) k1 bel lt1) (trodAll_cons_mk (shut_int Yba.underlying3 w2) trodAll_mk0))), rfl, bel.frame _, fun h => by cases h⟩

theorem over : Rows.lawS2707ALabelRow.holds Yba.pinned (OpenSpec.ofChange Rows.lawS2707ALabelSpec) :=
  OpenClaim.holds_of_wide 3 Yba.f3 rfl rfl rfl rfl rfl rfl rfl ⟨rfl, rfl, rfl, rfl, rfl⟩ rfl rfl rfl rfl rfl (by kernel_rfl) Yba.func3 (by kernel_rfl)
    (of_decide_eq_true (by kernel_rfl)) (by unfold Func.isWrapper; first | (rw [if_pos (by decide +kernel)]; kernel_rfl) | (rw [if_neg (by decide +kernel)]; exact ⟨rfl, rfl⟩))
    (fun os started H enc _ => lifted os started H enc)

/-- ████ THE STATEMENT ████ -/
theorem proved : Rows.LawS2707ALabelSaid := over
end Go.Proofs.Ybulkbdaq.lawS2707ALabel
