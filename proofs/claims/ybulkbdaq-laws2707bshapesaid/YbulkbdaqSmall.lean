/-
  THE SEAT's SMALL FUNCTIONS BY THEIR CONTRACTS: wireLen, zone.room, zone.growth, isUpper, the closure of the set-up.
-/
import Derived.Test.YbulkbdaqBase2
namespace Go.Proofs.Ybulkbdaq
open Go.RowKit

theorem q22 (w : World) (a : Option Addr) (n c n' c' : Nat) : (binOp .eql 22 (.slice a n c) (.slice none n' c')).run Yba.prog w = .ok (.bool a.isNone) w := Lib.run_eql_slice_nil (P := Yba.prog) w 22 5 a n c n' c' Yba.underlying22
theorem q22n (w : World) (a : Option Addr) (n c n' c' : Nat) : (binOp .neq 22 (.slice a n c) (.slice none n' c')).run Yba.prog w = .ok (.bool (!a.isNone)) w := run_neq_slice_nil_any (P := Yba.prog) w 22 5 a n c n' c' Yba.underlying22

set_option maxHeartbeats 400000 in
theorem wireLen_nil (w : World) (n c : Nat) (a2 : Option Addr) (n2 c2 : Nat) (_hn2 : n2 ≤ 1048576) :
    Calls Yba.prog 24 #[.slice none n c, .slice a2 n2 c2] w fun e w' => e = .returned (.int .i64 n2) ∧ w' = w := by
  have k := q22
  go_enter Yba.func24, Yba.ntmps24
  go_wp2
  go_ret
  exact ⟨rfl, rfl⟩
set_option maxHeartbeats 400000 in
theorem wireLen_some (w : World) (a : Addr) (n c : Nat) (a2 : Option Addr) (n2 c2 : Nat) (hn : n ≤ 1048576) (hn2 : n2 ≤ 1048576) :
    Calls Yba.prog 24 #[.slice (some a) n c, .slice a2 n2 c2] w fun e w' => e = .returned (.int .i64 (1 + n + n2)) ∧ w' = w := by
  have k := q22
  go_enter Yba.func24, Yba.ntmps24
  go_wp2
  go_ret
  exact ⟨rfl, rfl⟩

set_option maxHeartbeats 400000 in
theorem room_nil (w : World) (A M : Int) (n c : Nat) (a2 : Option Addr) (n2 c2 : Nat) (hn2 : n2 ≤ 1048576) (hM : 0 ≤ M) (hM2 : M ≤ 1048576) :
    Calls Yba.prog 19 #[.agg #[.int .i64 A, .int .i64 M], .slice none n c, .slice a2 n2 c2] w fun e w' => e = .returned (.int .i64 (M - n2)) ∧ Below w.heap.size w w' := by
  go_enter Yba.func19, Yba.ntmps19
  go_wp2
  go_quiet ((go_at_call 24; exact Calls.quiet_of_same (wireLen_nil _ _ _ _ _ _ hn2)))
  go_wp2
  go_ret
  exact ⟨rfl, below_drewN ((Below.refl _ _).alloc (Nat.le_refl _) _) _⟩
set_option maxHeartbeats 400000 in
theorem room_some (w : World) (A M : Int) (a : Addr) (n c : Nat) (a2 : Option Addr) (n2 c2 : Nat) (hn : n ≤ 1048576) (hn2 : n2 ≤ 1048576) (hM : 0 ≤ M) (hM2 : M ≤ 1048576) :
    Calls Yba.prog 19 #[.agg #[.int .i64 A, .int .i64 M], .slice (some a) n c, .slice a2 n2 c2] w fun e w' => e = .returned (.int .i64 (M - (1 + n + n2))) ∧ Below w.heap.size w w' := by
  go_enter Yba.func19, Yba.ntmps19
  go_wp2
  go_quiet ((go_at_call 24; exact Calls.quiet_of_same (wireLen_some _ _ _ _ _ _ _ hn hn2)))
  go_wp2
  go_ret
  exact ⟨rfl, below_drewN ((Below.refl _ _).alloc (Nat.le_refl _) _) _⟩
set_option maxHeartbeats 400000 in
theorem growth_some (w : World) (A M : Int) (a : Addr) (n c : Nat) (a2 : Option Addr) (n2 c2 : Nat) (hn : n ≤ 63) (hn2 : n2 ≤ 1048576) (hM : 0 ≤ M) (hM2 : M ≤ 1048576) :
    Calls Yba.prog 22 #[.agg #[.int .i64 A, .int .i64 M], .slice (some a) n c, .slice a2 n2 c2] w fun e w' => e = .returned (.int .i64 (min (63 - n) (M - (1 + n + n2)))) ∧ Below w.heap.size w w' := by
  go_enter Yba.func22, Yba.ntmps22
  go_wp2_with (go_at_call 19; refine (room_some _ _ _ _ _ _ _ _ _ (by omega) hn2 hM hM2).mono ?_; rintro e w' ⟨rfl, hb⟩)
  all_goals (go_ret; refine ⟨?_, (((Below.refl _ _).alloc (Nat.le_refl _) _).trans (hb.mono (by simp)))⟩)
  all_goals (show Ending.returned (Value.int .i64 _) = _; congr 2; omega)
def upB (c : Int) : Bool := decide (65 ≤ c) && decide (c ≤ 90)
set_option maxHeartbeats 400000 in
theorem isUpper_any (w : World) (c : Int) : Calls Yba.prog 23 #[.int .u8 c] w fun e w' => e = .returned (.bool (upB c)) ∧ w' = w := by
  go_enter Yba.func23, Yba.ntmps23
  go_wp2
  all_goals (go_ret; exact ⟨by simp [upB, *]; try omega, rfl⟩)
def inB (l h c : Int) : Bool := decide (l ≤ c) && decide (c ≤ h)
theorem in_any (w : World) (c l h : Int) (p1 p2 : Addr) (h1 : w.cell? p1 = some (.int .u8 l)) (h2 : w.cell? p2 = some (.int .u8 h)) : Calls Yba.prog 17 #[.int .u8 c, .pointer (some p1), .pointer (some p2)] w fun e w' => e = .returned (.bool (inB l h c)) ∧ w' = w := by
  go_enter Yba.func17, Yba.ntmps17
  go_wp2
  all_goals (go_ret; refine ⟨?_, rfl⟩; simp [inB, *]; try omega)
end Go.Proofs.Ybulkbdaq
