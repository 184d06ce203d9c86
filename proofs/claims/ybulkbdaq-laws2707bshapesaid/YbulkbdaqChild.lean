/-
  childStart BY ITS CONTRACT: where the last block of a wire name begins.
-/
import Derived.Test.YbulkbdaqLab
namespace Go.Proofs.Ybulkbdaq
open Go.RowKit

/-- Where block j begins. -/
def off (bs : List (List Int)) (j : Nat) : Nat := ((bs.take j).flatten).length

/-- A block of a wire name: a length octet, then as many octets. -/
def Blk (b : List Int) : Prop := ∃ body : List Int, b = (body.length : Int) :: body ∧ body.length ≤ 255

theorem off_zero (bs : List (List Int)) : off bs 0 = 0 := by simp [off]
theorem off_succ (bs : List (List Int)) (j : Nat) (hj : j < bs.length) : off bs (j + 1) = off bs j + (bs[j]).length := by
  unfold off; rw [List.take_succ_eq_append_getElem hj, List.flatten_append, List.length_append]; simp only [List.flatten_cons, List.flatten_nil, List.append_nil]
theorem off_all (bs : List (List Int)) : off bs bs.length = bs.flatten.length := by simp [off]
theorem off_le (bs : List (List Int)) (j : Nat) : off bs j ≤ bs.flatten.length := by
  unfold off
  have := congrArg List.length (congrArg List.flatten (List.take_append_drop j bs))
  rw [List.flatten_append, List.length_append] at this
  omega
theorem get_off (bs : List (List Int)) (ap : List Int) (j : Nat) (hj : j < bs.length) (hb : ∀ b ∈ bs, Blk b) :
    (bs.flatten ++ ap).getD (off bs j) 0 = ((bs[j]).length : Int) - 1 ∧ 1 ≤ (bs[j]).length ∧ (bs[j]).length ≤ 256 := by
  obtain ⟨body, hbody, hle⟩ := hb _ (List.getElem_mem hj)
  have e : bs.flatten ++ ap = (bs.take j).flatten ++ (bs[j] ++ ((bs.drop (j + 1)).flatten ++ ap)) := by
    have e1 : bs.take j ++ bs[j] :: bs.drop (j + 1) = bs := by rw [← List.drop_eq_getElem_cons hj, List.take_append_drop]
    have e2 := congrArg List.flatten e1
    rw [List.flatten_append, List.flatten_cons] at e2
    rw [← e2]; simp only [List.append_assoc]
  rw [e]
  unfold off
  rw [List.getD, List.getElem?_append_right (Nat.le_refl _), Nat.sub_self, hbody]
  simp
  omega

set_option maxRecDepth 20000 in
set_option maxHeartbeats 1000000 in
theorem child (w : World) (a : Option Addr) (n c : Nat) (bs : List (List Int)) (ap : List Int) (h : Has w a n c (bs.flatten ++ ap)) (hb : ∀ b ∈ bs, Blk b) (hne : bs ≠ []) :
    Calls Yba.prog 20 #[.slice a n c, .int .i64 ap.length] w fun e w' => e = .returned (.int .i64 (off bs (bs.length - 1))) ∧ w' = w := by
  have hm : 0 < bs.length := List.length_pos_iff.2 hne
  have hlen := h.len
  rw [List.length_append] at hlen
  have hmx := h.max; have hle := h.le
  unfold maxLen at hmx
  have g0 := get_off bs ap 0 hm hb
  have s0 : off bs 1 = off bs 0 + (bs[0]).length := off_succ bs 0 hm
  have l1 := off_le bs 1
  rw [off_zero] at g0 s0
  obtain ⟨b, o, rfl, hcell⟩ := h.at_ (by omega)
  have hc0 : w.cell? ⟨b, o, none⟩ = some (.int .u8 ((off bs 1 : Nat) - 1 : Int)) := by
    have := hcell 0 (by omega)
    rw [g0.1] at this
    rw [s0]; simpa using this
  have e1a : 1 ≤ off bs 1 := by omega
  have e1b : off bs 1 ≤ 256 := by omega
  clear g0 s0
  go_enter Yba.func20, Yba.ntmps20
  go_wp2
  go_loop [5, 6] (fun i x => ∃ j : Nat, j + 1 ≤ bs.length ∧ i = .int .i64 (off bs j) ∧ x = .int .i64 (off bs (j + 1))) (fun _ x => n - (intOf x).toNat)
  case atStart => exact ⟨0, by omega, by rw [off_zero]; rfl, by simp⟩
  case round =>
    obtain ⟨j, hj, rfl, rfl⟩ := hrel
    have oj := off_le bs (j + 1)
    have oa := off_all bs
    by_cases hlt : j + 1 < bs.length
    · have gj := get_off bs ap (j + 1) hlt hb
      have sj : off bs (j + 2) = off bs (j + 1) + (bs[j + 1]).length := off_succ bs (j + 1) hlt
      have lj := off_le bs (j + 2)
      have hcj : w.cell? ⟨b, o + off bs (j + 1), none⟩ = some (.int .u8 ((off bs (j + 2) : Nat) - (off bs (j + 1) : Nat) - 1 : Int)) := by
        have := hcell (off bs (j + 1)) (by omega)
        rw [gj.1] at this
        rw [this, sj]; congr 2; omega
      have hgt : ap.length < n - off bs (j + 1) := by omega
      have ha : off bs (j + 1) < off bs (j + 2) := by omega
      have hb2 : off bs (j + 2) ≤ off bs (j + 1) + 256 := by omega
      clear gj sj oa
      go_wp2
      go_round
      case rel => exact ⟨j + 1, hlt, rfl, by rw [show off bs (j + 1 + 1) = off bs (j + 2) from rfl]; go_num⟩
      case measure => simp [intOf]; omega
    · have ej : j = bs.length - 1 := by omega
      have e1 : j + 1 = bs.length := by omega
      have hge : ¬ ap.length < n - off bs (j + 1) := by rw [e1, oa]; omega
      clear oa
      have HE : Hid (j = bs.length - 1) := ej
      clear ej e1
      go_wp2
      go_ret
      exact ⟨by rw [← HE.out]; rfl, rfl⟩
end Go.Proofs.Ybulkbdaq
