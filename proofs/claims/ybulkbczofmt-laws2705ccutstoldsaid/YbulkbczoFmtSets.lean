/-
  quorate's node sets by their contracts: FullSet, FromBits, bit, With.
-/
import Derived.Test.YbulkbczoFmtRows
import Derived.WalkKit
import Derived.WalkSpells
import Derived.WalkLawsBesides
import Derived.ProofKit
import Derived.Deep.QuietTactic
import Derived.BigQuiet
import Derived.Deep.Cut
import Derived.Deep.CutBlock
import Derived.Deep.RegionLaw
import Derived.Laws.BitsAllLaws
namespace Go.Proofs.YbulkbczoFmt
open Go.RowKit

theorem full_val (n : Nat) (h1 : 1 ≤ n) (h2 : n ≤ 32) : (4294967295 / 2 ^ (32 - n) : Int) = ((2 ^ n - 1 : Nat) : Int) := by
  have : ∀ n : Fin 33, 1 ≤ n.val → (4294967295 / 2 ^ (32 - n.val) : Int) = ((2 ^ n.val - 1 : Nat) : Int) := by decide +kernel
  exact this ⟨n, by omega⟩ h1
theorem shl_val (k : Nat) (h : k < 32) : ((2 : Int) ^ k % 4294967296) = ((2 ^ k : Nat) : Int) := by
  have : ∀ k : Fin 32, ((2 : Int) ^ k.val % 4294967296) = ((2 ^ k.val : Nat) : Int) := by decide +kernel
  exact this ⟨k, h⟩

set_option maxRecDepth 20000 in
set_option maxHeartbeats 400000 in
theorem fullSet (n : Nat) (h1 : 1 ≤ n) (h2 : n ≤ 32) (w : World) : Calls Ybaf.prog 17 #[.int .i64 n] w fun e w' => e = .returned (.agg #[.int .i64 n, .int .u32 ((2 ^ n - 1 : Nat) : Int)]) ∧ Below w.heap.size w w' := by
  have HF : Hid ((4294967295 / 2 ^ (32 - n) : Int) = ((2 ^ n - 1 : Nat) : Int)) := full_val n h1 h2
  go_enter Ybaf.func17, Ybaf.ntmps17
  go_wp2
  refine bodyPost_ret (v := .agg #[.int .i64 n, .int .u32 ((2 ^ n - 1 : Nat) : Int)]) (by rw [HF.out]; simp [results, Ybaf.results17, go_sem]) rfl ⟨rfl, (Below.refl _ _).alloc (Nat.le_refl _) _⟩
set_option maxRecDepth 20000 in
set_option maxHeartbeats 400000 in
theorem bit (n b k : Nat) (h1 : k < n) (h2 : n ≤ 32) (w : World) : Calls Ybaf.prog 19 #[.agg #[.int .i64 n, .int .u32 b], .int .i64 ((k : Int) + 1)] w fun e w' => e = .returned (.int .u32 ((2 ^ k : Nat) : Int)) ∧ w' = w.alloc (.cells #[.int .i64 n, .int .u32 b] 31) := by
  have HF : Hid (((2 : Int) ^ k % 4294967296) = ((2 ^ k : Nat) : Int)) := shl_val k (by omega)
  go_enter Ybaf.func19, Ybaf.ntmps19
  go_wp2
  go_ret
  exact ⟨by rw [← HF.out]; rfl, rfl⟩
theorem or_val (b k : Nat) (hb : b < 4294967296) (hk : k < 32) : bits .or .u32 (b : Int) ((2 : Int) ^ k) = ((b ||| 2 ^ k : Nat) : Int) := by
  have h2 : (2 : Nat) ^ k < 4294967296 := by
    have : ∀ k : Fin 32, (2 : Nat) ^ k.val < 4294967296 := by decide +kernel
    exact this ⟨k, hk⟩
  have e := u32_or_nat b (2 ^ k) hb h2
  rw [Int.natCast_pow] at e
  exact e
theorem pow_le32 (n : Nat) (h2 : n ≤ 32) : (2 : Nat) ^ n ≤ 4294967296 := by
  have : ∀ n : Fin 33, (2 : Nat) ^ n.val ≤ 4294967296 := by decide +kernel
  exact this ⟨n, by omega⟩
theorem andNot_val (b n : Nat) (hb : b < 2 ^ n) (h1 : 1 ≤ n) (h2 : n ≤ 32) : bits .andNot .u32 (b : Int) ((2 ^ n - 1 : Nat) : Int) = 0 := by
  have hp := pow_le32 n h2
  rw [u32_andNot_nat b (2 ^ n - 1) (by omega) (by omega)]
  have hz : b &&& (4294967295 - (2 ^ n - 1)) = 0 := by
    apply Nat.eq_of_testBit_eq
    intro i
    rw [Nat.testBit_and, Nat.zero_testBit]
    by_cases hi : i < n
    · have : ∀ n : Fin 33, ∀ i : Fin 33, i.val < n.val → (4294967295 - (2 ^ n.val - 1)).testBit i.val = false := by decide +kernel
      rw [this ⟨n, by omega⟩ ⟨i, by omega⟩ hi]; simp
    · have : b.testBit i = false := Nat.testBit_lt_two_pow (Nat.lt_of_lt_of_le hb (Nat.pow_le_pow_right (by omega) (by omega)))
      rw [this]; simp
  rw [hz]; rfl

set_option maxRecDepth 20000 in
set_option maxHeartbeats 400000 in
theorem fromBits (n b : Nat) (h1 : 1 ≤ n) (h2 : n ≤ 32) (hb : b < 2 ^ n) (w : World) : Calls Ybaf.prog 9 #[.int .i64 n, .int .u32 b] w fun e w' => e = .returned (.agg #[.int .i64 n, .int .u32 b]) ∧ Below w.heap.size w w' := by
  have ha := andNot_val b n hb h1 h2
  go_enter Ybaf.func9, Ybaf.ntmps9
  go_wp2_with fail
  refine (fullSet n h1 h2 _).mono ?_
  rintro e w1 ⟨rfl, b1⟩
  have c0 : w1.cell? ⟨w.heap.size, 0, none⟩ = some (.int .i64 0) := (b1.cell (p := ⟨w.heap.size, 0, none⟩) (by simp)).trans (by simp)
  have c1 : w1.cell? ⟨w.heap.size, 1, none⟩ = some (.int .u32 0) := (b1.cell (p := ⟨w.heap.size, 1, none⟩) (by simp)).trans (by simp)
  have f0 : w1.frozen? ⟨w.heap.size, 0, none⟩ = false := (b1.frozen (p := ⟨w.heap.size, 0, none⟩) (by simp)).trans (by simp)
  have f1 : w1.frozen? ⟨w.heap.size, 1, none⟩ = false := (b1.frozen (p := ⟨w.heap.size, 1, none⟩) (by simp)).trans (by simp)
  have z1 : w.heap.size < w1.heap.size := by have := b1.size; simp at this; omega
  have bw : Below w.heap.size w w1 := ((Below.refl _ w).alloc (Nat.le_refl _) _).trans (b1.mono (by simp))
  clear b1
  go_wp2
  refine bodyPost_ret (v := .agg #[.int .i64 n, .int .u32 b]) (by simp [results, Ybaf.results9, go_sem, c0, c1, z1]) rfl ⟨rfl, ?_⟩
  exact ((bw.setCell (by simp) _).setCell (by simp) _).alloc (by simp; omega) _
set_option maxRecDepth 20000 in
set_option maxHeartbeats 400000 in
theorem with_ (n b k : Nat) (h1 : k < n) (h2 : n ≤ 32) (hb : b < 2 ^ n) (w : World) : Calls Ybaf.prog 10 #[.agg #[.int .i64 n, .int .u32 b], .int .i64 ((k : Int) + 1)] w fun e w' => e = .returned (.agg #[.int .i64 n, .int .u32 ((b ||| 2 ^ k : Nat) : Int)]) ∧ Below w.heap.size w w' := by
  have hp := pow_le32 n h2
  have ho := or_val b k (by omega) (by omega)
  go_enter Ybaf.func10, Ybaf.ntmps10
  go_wp2
  go_region_with (go_at_call 19; refine (bit n b k h1 h2 _).mono ?_; rintro e w1 ⟨rfl, rfl⟩)
  all_goals
    go_wp2
    refine bodyPost_ret (v := .agg #[.int .i64 n, .int .u32 ((b ||| 2 ^ k : Nat) : Int)]) (by simp [results, Ybaf.results10, go_sem]) rfl ⟨rfl, ?_⟩
    exact ((((Below.refl _ w).alloc (Nat.le_refl _) _).alloc (by simp) _).alloc (by simp; omega) _).drew
end Go.Proofs.YbulkbczoFmt
