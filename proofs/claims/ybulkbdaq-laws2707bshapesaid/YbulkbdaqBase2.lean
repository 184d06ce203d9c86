/-
  THE SEAT's OWN VOCABULARY, MORE: draws, a literal of one byte, bracket.split by its contract.
-/
import Derived.Test.YbulkbdaqBase
import Derived.Deep.QuietTactic
import Derived.BigQuiet
import Derived.Deep.Cut
namespace Go.Proofs.Ybulkbdaq
open Go.RowKit
theorem Has.drewN {w : World} {n c : Nat} {a : Option Addr} {l : List Int} (h : Has w a n c l) (q : Nat) : Has (w.drewN q) a n c l :=
  h.carry fun _ _ _ _ => rfl

set_option maxHeartbeats 400000 in
theorem split_label (w : World) (a : Option Addr) (n c : Nat) (xs : List Int) (h : Has w a n c xs) (k : Nat) (hk : 1 + k ≤ n) (h0 : xs.getD 0 0 = k) (hk8 : k ≤ 255) (ap : Int) (hap : ((n : Int) == ap) = false) :
    Calls Yba.prog 9 #[.slice a n c, .int .i64 ap] w fun e w' => e = .returned (.tuple #[.slice (adr a 1 c) k (c - 1), .slice (adr a (1 + k) c) (n - (1 + k)) (c - (1 + k))]) ∧ ∃ q, w' = w.drewN q := by
  have hmx := h.max
  have hle := h.le
  unfold maxLen at hmx
  obtain ⟨b, o, ha, hcell⟩ := h.at_ (by omega)
  subst ha
  have hc0 : w.cell? ⟨b, o, none⟩ = some (.int .u8 k) := by rw [← h0]; simpa using hcell 0 (by omega)
  have s1 : ∀ q, (Instr.slice 22 (.slice (some ⟨b, o, none⟩) n c) (some (.int .i64 1)) (some (.int .i64 (1 + (k : Int)))) none).run Yba.prog (w.drewN q) = .ok (.slice (adr (some ⟨b, o, none⟩) 1 c) k (c - 1)) (w.drewN q) := fun q => by
    have := run_cut (w.drewN q) (some ⟨b, o, none⟩) n c 1 (1 + k) (by omega) (by omega)
    simpa using this
  have s2 : ∀ q, (Instr.slice 22 (.slice (some ⟨b, o, none⟩) n c) (some (.int .i64 (1 + (k : Int)))) none none).run Yba.prog (w.drewN q) = .ok (.slice (adr (some ⟨b, o, none⟩) (1 + k) c) (n - (1 + k)) (c - (1 + k))) (w.drewN q) := fun q => by
    have := run_cut_l (w.drewN q) (some ⟨b, o, none⟩) n c (1 + k) (by omega)
    simpa using this
  clear hcell h h0
  go_enter Yba.func9, Yba.ntmps9
  go_wp2
  go_quiet (fail)
  go_wp2
  all_goals (go_ret2; refine ⟨?_, _, rfl⟩; clear s1 s2 hc0; simp [adr, Addr.add_lit, *]; try omega)

theorem split_parts (w : World) (a : Option Addr) (k m c : Nat) (xs ys : List Int) (h : Has w a (1 + k + m) c ((k : Int) :: (xs ++ ys))) (hk8 : k ≤ 255) (hx : xs.length = k) (ap : Int) (hap : (((1 + k + m : Nat) : Int) == ap) = false) :
    Calls Yba.prog 9 #[.slice a (1 + k + m) c, .int .i64 ap] w fun e w' => e = .returned (.tuple #[.slice (adr a 1 c) k (c - 1), .slice (adr a (1 + k) c) m (c - (1 + k))]) ∧
      Has w' (adr a 1 c) k (c - 1) xs ∧ Has w' (adr a (1 + k) c) m (c - (1 + k)) ys ∧ ∃ q, w' = w.drewN q := by
  refine (split_label w a (1 + k + m) c _ h k (by omega) (by simp) hk8 ap hap).mono ?_
  rintro e w' ⟨rfl, q, rfl⟩
  have c1 := (h.drewN q).cut 1 (1 + k) (by omega) (by omega)
  have c2 := (h.drewN q).cut (1 + k) (1 + k + m) (by omega) (by omega)
  rw [show 1 + k + m - (1 + k) = m from by omega] at c2 ⊢
  rw [show 1 + k - 1 = k from by omega] at c1
  have hl := h.len
  have e1 : List.drop 1 (List.take (1 + k) ((k : Int) :: (xs ++ ys))) = xs := by
    rw [Nat.add_comm 1 k, List.take_succ_cons, ← hx]; simp
  have e2 : List.drop (1 + k) (List.take (1 + k + m) ((k : Int) :: (xs ++ ys))) = ys := by
    rw [List.take_of_length_le (by omega), Nat.add_comm 1 k, List.drop_succ_cons, ← hx]; simp
  rw [e1] at c1
  rw [e2] at c2
  exact ⟨rfl, c1, c2, q, rfl⟩

theorem hasLit (w : World) (x : Int) : Has (w.alloc (.cells #[.int .u8 x] 5)) (some ⟨w.heap.size, 0, none⟩) 1 1 [x] :=
  ⟨rfl, Nat.le_refl _, by unfold maxLen; omega, fun e => (by cases e), fun _ => ⟨w.heap.size, 0, rfl, fun i hi => by
    obtain rfl : i = 0 := by omega
    simp⟩⟩

theorem Own.made {w' : World} {B g n : Nat} (h : w'.ownsRow B 5 1 (.slice (some ⟨g, 0, none⟩) 0 n) 0 []) : Own w' B (some ⟨g, 0, none⟩) 0 n [] := ⟨rfl, h⟩

end Go.Proofs.Ybulkbdaq
