/-
  The proof of 'Rows.LawS2704BRoomKeptSaid' (client.LawS2704BRoomKept). The frame was laid by the guide's proof-skeleton; the walk is typed by hand.
-/
import Derived.Test.YbulkbczaRows
import Derived.WalkKit
import Derived.WalkSpells
import Derived.WalkLawsBesides
import Derived.ProofKit
import Derived.OpenShut
import Derived.ShutString
namespace Go.Proofs.Ybulkbcza.lawS2704BRoomKept
open Go.ChangeShapes Go.WideShapes Go.ChangeAt Go.RowKit
open Go.ChangeMaps (open_string shut_string)
set_option linter.unusedVariables false      -- a walk need not use every 'w<i>' (that an integer argument fits its kind)

theorem own : ownKnob Yba.prog.godebug = none := by kernel_rfl

theorem mk0 (w : World) : (Instr.makeChan 22 (.int .i64 0)).run Yba.prog w = .ok (.chan (some w.heap.size)) (w.alloc (.chan 0 #[] false 0 0 false)) := by
  kernel_rfl
theorem eq22 (a b : Option Nat) (w : World) : (binOp .eql 22 (.chan a) (.chan b)).run Yba.prog w = .ok (.bool (a == b)) w := by
  kernel_rfl
theorem eq47 (a b : Option Nat) (w : World) : (binOp .eql 47 (.chan a) (.chan b)).run Yba.prog w = .ok (.bool (a == b)) w := by
  kernel_rfl
theorem neq47 (a b : Option Nat) (w : World) : (binOp .neq 47 (.chan a) (.chan b)).run Yba.prog w = .ok (.bool (!(a == b))) w := by
  kernel_rfl
theorem st_chan (a : Addr) (r : Option Nat) (w : World) : (store a (.chan r)).run Yba.prog w = stored Yba.prog w a (.chan r) .plain := run_store Yba.prog w a _ _ rfl
set_option maxHeartbeats 400000 in
theorem room_some (b : Nat) (c : Nat) (w : World) (h : w.cell? ⟨b, 18, none⟩ = some (.chan (some c))) :
    Calls Yba.prog 4 #[.pointer (some ⟨b, 0, none⟩)] w fun e w' => e = .returned (.chan (some c)) ∧ w' = w := by
  have hmc := mk0
  have hst := st_chan
  have he := eq22
  go_enter Yba.func4, Yba.ntmps4
  go_wp2
  go_ret
  exact ⟨rfl, rfl⟩
set_option maxHeartbeats 400000 in
theorem room_none (b : Nat) (w : World) (h : w.cell? ⟨b, 18, none⟩ = some (.chan none)) (hf : w.frozen? ⟨b, 18, none⟩ = false) (hb : b < w.heap.size) :
    Calls Yba.prog 4 #[.pointer (some ⟨b, 0, none⟩)] w fun e w' => e = .returned (.chan (some w.heap.size)) ∧ w' = (w.setCell ⟨b, 18, none⟩ (.chan (some w.heap.size))).alloc (.chan 0 #[] false 0 0 false) := by
  have hmc := mk0
  have hst := st_chan
  have he := eq22
  go_enter Yba.func4, Yba.ntmps4
  go_wp2
  go_ret
  exact ⟨rfl, rfl⟩

theorem frozen_allocChan (w : World) (a : Addr) : (w.alloc (.chan 0 #[] false 0 0 false)).frozen? a = w.frozen? a := by
  by_cases h : a.block = w.heap.size
  · have e1 : (w.alloc (.chan 0 #[] false 0 0 false)).heap[a.block]? = some (.chan 0 #[] false 0 0 false) := by rw [h]; exact (MapKept.heap_alloc w _).1
    have e2 : w.heap[a.block]? = none := by rw [h]; simp
    simp [World.frozen?, e1, e2]
  · exact World.frozen?_alloc_old _ _ _ h
theorem grownChan {W w' : World} (h : Grown W w') : Grown W (w'.alloc (.chan 0 #[] false 0 0 false)) :=
  ⟨World.keptBut_trans h.1 (World.keptBut_alloc _ _ _), fun a => (frozen_allocChan _ a).trans (h.2.1 a), Nat.le_trans h.2.2 (by show w'.heap.size ≤ (w'.heap.push _).size; simp)⟩

theorem heap2 (w : World) (o p : Obj) : ((w.alloc o).alloc p).heap[w.heap.size]? = some o := by
  rw [Below.heap_alloc _ _ _ (by simp)]
  exact (MapKept.heap_alloc w o).1

/-- the first call, whatever the room held -/
theorem room_first (W : World) (b : Nat) (r : Option Nat) (w : World) (hW : Grown W w) (hWb : W.heap.size ≤ b) (h : w.cell? ⟨b, 18, none⟩ = some (.chan r)) (hf : w.frozen? ⟨b, 18, none⟩ = false) (hb : b < w.heap.size)
    (hr : ∀ c, r = some c → w.heap[c]? = some (.chan 0 #[] false 0 0 false)) :
    Calls Yba.prog 4 #[.pointer (some ⟨b, 0, none⟩)] w fun e w' => ∃ c, e = .returned (.chan (some c)) ∧ (∀ x, r = some x → x = c) ∧ w'.cell? ⟨b, 18, none⟩ = some (.chan (some c)) ∧ w'.heap[c]? = some (.chan 0 #[] false 0 0 false) ∧ (∀ o, o ≠ 18 → w'.cell? ⟨b, o, none⟩ = w.cell? ⟨b, o, none⟩) ∧ Grown W w' := by
  cases r with
  | some c =>
    refine (room_some b c w h).mono ?_
    rintro e w' ⟨rfl, rfl⟩
    exact ⟨c, rfl, fun x hx => by simpa using hx.symm, h, hr c rfl, fun _ _ => rfl, hW⟩
  | none =>
    refine (room_none b w h hf hb).mono ?_
    rintro e w' ⟨rfl, rfl⟩
    refine ⟨w.heap.size, rfl, fun x hx => (by cases hx), ?_, ?_, ?_, ?_⟩
    · rw [World.cell?_alloc_lt _ _ _ (by simpa using hb)]
      exact World.cell?_setCell_same _ _ _ h
    · have := (MapKept.heap_alloc (w.setCell ⟨b, 18, none⟩ (.chan (some w.heap.size))) (.chan 0 #[] false 0 0 false)).1
      simpa using this
    · intro o ho
      rw [World.cell?_alloc_lt _ _ _ (by simpa using hb)]
      exact World.cell?_setCell_other _ _ _ _ (by intro he; cases he; exact ho rfl)
    · exact grownChan (hW.setCell hWb _)
theorem cap47 (c : Nat) (w : World) (hc : w.heap[c]? = some (.chan 0 #[] false 0 0 false)) :
    (Builtin.cap_ #[47] 3 #[.chan (some c)]).run Yba.prog w = .ok (goInt 0) w := by
  have hg : (getObj c).run Yba.prog w = .ok (.chan 0 #[] false 0 0 false) w := by simp [getObj, Sem.run, hc]
  simp [Builtin.cap_, run_underlying Yba.underlying47, hg]
set_option maxHeartbeats 400000 in
theorem walk (a0 : Bool) (a1 : Int) (a2 : Int) (a3 : Bool) (w1 : (Lit.int .u8 a1).wf = true) (w2 : (Lit.int .i64 a2).wf = true) (w : World) :
    Calls Yba.prog 3 #[.bool a0, .int .u8 a1, .int .i64 a2, .bool a3] w fun e w' => e = .returned (.bool true) ∧ Grown w w' := by
  have hmc := mk0
  have e1 := eq47
  have e2 := neq47
  have b1 : 0 ≤ a1 ∧ a1 ≤ 255 := by simpa [Lit.wf, IntKind.min, IntKind.max, IntKind.bits, IntKind.signed] using w1
  obtain ⟨b1, b2⟩ := b1
  cases a0
  · go_enter Yba.func3, Yba.ntmps3
    go_wp2_with fail
    refine (room_first w _ none _ ?_ ?_ ?_ ?_ ?_ ?_).mono ?_
    · exact (Grown.refl _).alloc _ _
    · exact Nat.le_refl _
    · simp
    · simp
    · simp
    · intro c hc; cases hc
    rintro e w' ⟨c, rfl, hc, h18, hch, hoth, hg⟩
    have h7 := hoth 7 (by decide)
    have h16 := hoth 16 (by decide)
    have hcap := cap47 c w' hch
    simp at h7 h16
    clear hoth
    go_wp2_with fail
    go_loop [13] (fun i => ∃ k : Int, 1 ≤ k ∧ k ≤ 8 ∧ i = .int .i64 k) (fun i => (8 - intOf i).toNat)
    case atStart => exact ⟨1, by omega, by omega, rfl⟩
    case round =>
      obtain ⟨k, hk1, hk2, rfl⟩ := hrel
      by_cases hlt : k < a1 % 8 + 1
      · go_wp2_with (go_at_call 4; refine (room_some _ c _ h18).mono ?_; rintro e w'' ⟨rfl, rfl⟩)
        go_round
        case rel => exact ⟨k + 1, by omega, by omega, rfl⟩
        case measure => simp [intOf]; omega
      · go_wp2
        go_ret
        exact ⟨rfl, hg⟩
  · go_enter Yba.func3, Yba.ntmps3
    go_wp2_with fail
    refine (room_first w _ (some w.heap.size) _ ?_ ?_ ?_ ?_ ?_ ?_).mono ?_
    · exact (grownChan (Grown.refl _)).alloc _ _
    · exact Nat.le_succ _
    · simp
    · simp
    · simp
    · intro c hc; cases hc; exact heap2 _ _ _
    rintro e w' ⟨c, rfl, hc, h18, hch, hoth, hg⟩
    obtain rfl := hc _ rfl
    clear hc
    have h7 := hoth 7 (by decide)
    have h16 := hoth 16 (by decide)
    have hcap := cap47 _ w' hch
    simp at h7 h16
    clear hoth
    go_wp2_with fail
    go_loop [13] (fun i => ∃ k : Int, 1 ≤ k ∧ k ≤ 8 ∧ i = .int .i64 k) (fun i => (8 - intOf i).toNat)
    case atStart => exact ⟨1, by omega, by omega, rfl⟩
    case round =>
      obtain ⟨k, hk1, hk2, rfl⟩ := hrel
      by_cases hlt : k < a1 % 8 + 1
      · go_wp2_with (go_at_call 4; refine (room_some _ _ _ h18).mono ?_; rintro e w'' ⟨rfl, rfl⟩)
        go_round
        case rel => exact ⟨k + 1, by omega, by omega, rfl⟩
        case measure => simp [intOf]; omega
      · go_wp2
        go_ret
        exact ⟨rfl, hg⟩

/-! ### THE ROW's STEP: WRITTEN OUT: LEAVE IT -/
set_option maxRecDepth 100000 in
theorem lifted (os : Os) (started : os.Started) (H : Type) (enc : TypeId × Value → H) :
    ReturnsInHanded {} Yba.checked os 3 .any (Rows.lawS2704BRoomKeptSpec.pre6 enc Yba.prog Yba.f3 Rows.lawS2704BRoomKeptRow.domain false) (Rows.lawS2704BRoomKeptSpec.post enc Yba.prog Yba.f3 false true false false) := by
  refine returnsInHanded_of_change (C := Yba.checked) own started (by kernel_rfl) Yba.func3
    (ChangeSpec.witness6 (enc := enc) (C := Yba.checked) false ⟨#[], #[.bool false, .int .u8 0, .int .i64 0, .bool false], []⟩ 8 (by kernel_rfl) (by kernel_rfl) (by kernel_rfl) (by kernel_rfl)) ?_
  intro W base args ds gs before hval0 hW hcnd _
  have hval : ∀ (j : Nat) t v, Yba.f3.params[j]? = some t → args[j]? = some v → Value.okWide Yba.prog W .any base t v := hval0
  have hW' := hW
  obtain ⟨p, q, hA0, hV, rfl, hfz, hnd⟩ := hW
  have hA : DataW.TrodAll enc Yba.prog W 0 (fun _ => true) true Yba.f3.params.toList args.toList ds p := hA0
  rw [Yba.params3] at hA hval
  obtain ⟨v0, vs0, d0, ds0, p0, q0, hargs, rfl, rfl, h0, r0⟩ := trodAll_cons hA
  obtain ⟨v1, vs1, d1, ds1, p1, q1, rfl, rfl, rfl, h1, r1⟩ := trodAll_cons r0
  obtain ⟨v2, vs2, d2, ds2, p2, q2, rfl, rfl, rfl, h2, r2⟩ := trodAll_cons r1
  obtain ⟨v3, vs3, d3, ds3, p3, q3, rfl, rfl, rfl, h3, r3⟩ := trodAll_cons r2
  obtain ⟨rfl, rfl, rfl⟩ := trodAll_nil r3
  obtain rfl : args = #[v0, v1, v2, v3] := by cases args; simp_all
  obtain ⟨rfl, rfl⟩ := trodVars_none hV
  obtain ⟨a0, rfl, rfl, rfl⟩ := open_bool Yba.underlying4 (hval 0 4 v0 rfl rfl) h0
  obtain ⟨a1, rfl, rfl, rfl, w1⟩ := open_int Yba.underlying5 (hval 1 5 v1 rfl rfl) h1
  obtain ⟨a2, rfl, rfl, rfl, w2⟩ := open_int Yba.underlying3 (hval 2 3 v2 rfl rfl) h2
  obtain ⟨a3, rfl, rfl, rfl⟩ := open_bool Yba.underlying4 (hval 3 4 v3 rfl rfl) h3
  clear hA0 hval0
  simp only [List.append_nil] at hW'
  refine (walk a0 a1 a2 a3 w1 w2 W).mono fun e W' ⟨he, hg⟩ => ?_
  subst he
  exact ⟨_, rfl, post_of_same (pa := []) (pv := []) hW' (fun _ _ _ => (trodAll_cons_mk (shut_bool Yba.underlying4 _) trodAll_mk0)) (fun sp _ => (trodAll_cons_mk (shut_bool Yba.underlying4 _) (trodAll_cons_mk (shut_int Yba.underlying5 w1) (trodAll_cons_mk (shut_int Yba.underlying3 w2) (trodAll_cons_mk (shut_bool Yba.underlying4 _) trodAll_mk0))))) (fun _ _ => rfl) rfl
    (hg.frame _) hg.2.1 (ok_one (by kernel_rfl) rfl (okWide_bool_mk Yba.underlying4 _))⟩

theorem over : Rows.lawS2704BRoomKeptRow.holds Yba.pinned (OpenSpec.ofChange Rows.lawS2704BRoomKeptSpec) :=
  OpenClaim.holds_of_wide 3 Yba.f3 rfl rfl rfl rfl rfl rfl rfl ⟨rfl, rfl, rfl, rfl, rfl⟩ rfl rfl rfl rfl rfl (by kernel_rfl) Yba.func3 (by kernel_rfl)
    (of_decide_eq_true (by kernel_rfl)) (by unfold Func.isWrapper; first | (rw [if_pos (by decide +kernel)]; kernel_rfl) | (rw [if_neg (by decide +kernel)]; exact ⟨rfl, rfl⟩))
    (fun os started H enc _ => lifted os started H enc)

/-- ████ THE STATEMENT ████ -/
theorem proved : Rows.LawS2704BRoomKeptSaid :=
  over
end Go.Proofs.Ybulkbcza.lawS2704BRoomKept
