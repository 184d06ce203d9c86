/-
  newOctetRange BY ITS CONTRACT, at the closure of the set-up: the range l..h.
-/
import Derived.Test.YbulkbdaqRng
import Derived.Deep.LoopGhost
namespace Go.Proofs.Ybulkbdaq
open Go.RowKit
theorem wpBuild35 {ops : Array Oper} {rest : List Oper} {o : Oper} {act : Act} {w : World} {Q : Exit → Act → World → Prop} (hgd : o.guard = none) (ho : o.op = .build 35 #[(6, .const (.bool true))])
    (h : wpList Yba.prog ops Q rest (act.put o.dst (.agg O35)) w) : wpList Yba.prog ops Q (o :: rest) act w := by
  refine wpList_plain hgd fun K hK => ?_
  unfold Oper.wp execOp
  have e : (#[(6, Operand.const (Value.bool true))].map fun (x : Nat × Operand) => (x.1, act.eval x.2)) = #[(6, Value.bool true)] := by simp [Act.eval]
  simp only [ho, Sem.run_bind, Sem.run_pure, e, bd35]
  exact hK _ _ h
theorem far (w : World) (p a : Addr) (v : Value) (h : a.block ≠ p.block) : (w.setCell p v).cell? a = w.cell? a := World.cell?_of_block (heap_setCell_other w p a.block v h)

/-- The state of the three loops: the row in block H + 1, the result's still zero in block H, all else as it was. -/
structure St (w wr : World) (cur : Array Value) : Prop where
  row : wr.heap[w.heap.size + 1]? = some (.cells cur 35 (0, 0))
  res : wr.heap[w.heap.size]? = some (.cells Z35 35 (0, 0))
  old : Below w.heap.size w wr

theorem St.set {w wr : World} {cur : Array Value} (s : St w wr cur) (i : Nat) (v : Value) : St w (wr.setCell ⟨w.heap.size + 1, i, none⟩ v) (cur.setIfInBounds i v) :=
  ⟨heap_setCell_same wr _ i cur 35 v s.row, (heap_setCell_other wr _ _ v (by simp)).trans s.res, s.old.setCell (by simp) v⟩

set_option maxRecDepth 20000 in
set_option maxHeartbeats 1000000 in
theorem nor (w : World) (p1 p2 : Addr) (l h : Int) (hl0 : 0 ≤ l) (hlh : l ≤ h) (hh : h ≤ 255) (hp1 : w.cell? p1 = some (.int .u8 l)) (hp2 : w.cell? p2 = some (.int .u8 h)) :
    Calls Yba.prog 16 #[.func (.func 17) #[] #[.pointer (some p1), .pointer (some p2)]] w fun e w' => ∃ cur, e = .returned (.agg cur) ∧ Run l h 63 cur ∧ Below w.heap.size w w' := by
  have hb1 := World.block_lt_of_cell? w _ hp1
  have hb2 := World.block_lt_of_cell? w _ hp2
  have z := zv35
  go_enter Yba.func16, Yba.ntmps16
  go_wp2_with (first | refine wpBuild35 rfl rfl ?_ | refine wpList_store_row rfl 35 _ _ rfl _ O35 rfl rfl 35 Z35 ?_ ?_ ?_ ?_ ?_)
  · exact heap_alloc2_new w _ _
  · rw [O35_size]; exact size35
  · rw [O35_size]; exact Z35_size
  · rw [Array.all_eq_true_iff_forall_mem]; intro v hv; exact O35_one v (by simpa using hv)
  clear z
  go_loopw [10, 4] (fun i b wr => ∃ k : Nat, k ≤ 256 ∧ i = .int .i64 k ∧ b = .int .i64 (bel l h k) ∧ ∃ cur, St w wr cur ∧ Rng l h k cur) (fun i _ _ => 256 - (intOf i).toNat)
  case atStart => 
    refine ⟨0, Nat.zero_le _, rfl, by rw [bel_lo (by omega)], O35, ⟨?_, ?_, ?_⟩, Rng.start l h⟩
    · exact setRow_heap _ _ _ _ _ _ (heap_alloc2_new w _ _)
    · rw [setRow_other _ _ _ _ (by omega)]; exact heap_alloc2_old w _ _
    · refine Below.trans (((Below.refl _ w).alloc (Nat.le_refl _) _).alloc (by simp) _) ⟨rfl, rfl, rfl, by simp, fun q hq => setRow_other _ _ _ _ (by omega)⟩
  case round =>
    obtain ⟨k, hk, rfl, rfl, cur, hS, hR⟩ := hrel
    have hb := hS.old
    have hX := hS.row
    have q1 : wr.cell? p1 = some (.int .u8 l) := (hb.cell hb1).trans hp1
    have q2 : wr.cell? p2 = some (.int .u8 h) := (hb.cell hb2).trans hp2
    have hcell : ∀ j, j < 834 → ∃ v, wr.cell? ⟨w.heap.size + 1, j, none⟩ = some v := fun j hj => by
      rw [cell_of_row _ _ _ _ _ _ hX]; exact ⟨_, Array.getElem?_eq_getElem (by rw [hR.size]; exact hj)⟩
    have hfz : ∀ j, wr.frozen? ⟨w.heap.size + 1, j, none⟩ = false := fun j => frozen_of_row _ _ _ _ _ hX
    clear hb hX
    have q1' : ∀ i v, (wr.setCell ⟨w.heap.size + 1, i, none⟩ v).cell? p1 = some (.int .u8 l) := fun i v => (far wr _ _ v (by show p1.block ≠ w.heap.size + 1; omega)).trans q1
    have q2' : ∀ i v, (wr.setCell ⟨w.heap.size + 1, i, none⟩ v).cell? p2 = some (.int .u8 h) := fun i v => (far wr _ _ v (by show p2.block ≠ w.heap.size + 1; omega)).trans q2
    by_cases hlt : k < 256
    · obtain ⟨v1, hv1⟩ := hcell (514 + k) (by omega)
      obtain ⟨v2, hv2⟩ := hcell (2 + k) (by omega)
      obtain ⟨v3, hv3⟩ := hcell 833 (by omega)
      clear hcell
      by_cases hc1 : (k : Int) < l
      · have hin : inB l h k = false := inB_f1 hc1
        have hbl : bel l h k = -1 := bel_lo (by omega)
        have HB : Hid (bel l h (k + 1 : Nat) = -1) := bel_lo (by omega)
        go_wp2_with (first | (go_at_call 17; refine (in_any _ _ l h _ _ q1 q2).mono ?_; rintro e w' ⟨rfl, rfl⟩) | (go_at_call 23; refine (isUpper_any _ _).mono ?_; rintro e w' ⟨rfl, rfl⟩))
        all_goals
          go_roundw
          case rel => exact ⟨k + 1, by omega, by go_num, by rw [HB.out], _, by first | exact hS.set _ _ | exact hS, by first | exact (hR.stepA hlt hc1).cuts false | exact hR.stepA hlt hc1⟩
          case measure => simp [intOf]; omega
      by_cases hc2 : (k : Int) = l
      · have hin : inB l h k = true := inB_t (by omega) (by omega)
        have hbl : bel l h k = -1 := bel_lo (by omega)
        have HB : Hid (bel l h (k + 1 : Nat) = k) := by
          have := bel_mid (l := l) (h := h) (k := (k + 1 : Nat)) (by omega) (by omega)
          show bel l h (k + 1 : Nat) = k
          rw [this]; omega
        have HC : Hid ((k : Int) = l) := hc2
        clear hc2
        go_wp2_with (first | (go_at_call 17; refine (in_any _ _ l h _ _ q1 q2).mono ?_; rintro e w' ⟨rfl, rfl⟩))
        go_roundw
        case rel => exact ⟨k + 1, by omega, by go_num, by rw [HB.out], _, hS.set _ _, hR.stepB hlt HC.out hlh⟩
        case measure => simp [intOf]; omega
      by_cases hc3 : (k : Int) ≤ h
      · have bb := bel_bd (k := k) hl0 hlh hh (by omega)
        obtain ⟨bb1, bb2, bb3⟩ := bb
        have hin : inB l h k = true := inB_t (by omega) (by omega)
        have HB : Hid (bel l h (k + 1 : Nat) = k) := by
          have := bel_mid (l := l) (h := h) (k := (k + 1 : Nat)) (by omega) (by omega)
          show bel l h (k + 1 : Nat) = k
          rw [this]; omega
        go_wp2_with (first | (go_at_call 17; refine (in_any _ _ l h _ _ (q1' _ _) (q2' _ _)).mono ?_; rintro e w' ⟨rfl, rfl⟩))
        go_roundw
        case rel => exact ⟨k + 1, by omega, by go_num, by rw [HB.out], _, (hS.set _ _).set _ _, hR.stepC hlt (by omega) hc3⟩
        case measure => simp [intOf]; omega
      · have bb := bel_bd (k := k) hl0 hlh hh (by omega)
        obtain ⟨bb1, bb2, bb3⟩ := bb
        have hin : inB l h k = false := inB_f2 (by omega)
        have HB : Hid (bel l h (k + 1 : Nat) = bel l h k) := by
          show bel l h (k + 1 : Nat) = bel l h k
          by_cases e : (k : Int) = h + 1
          · rw [bel_mid (k := (k : Int)) (by omega) (by omega), bel_hi hlh (by omega)]; omega
          · rw [bel_hi hlh (by omega), bel_hi hlh (by omega)]
        go_wp2_with (first | (go_at_call 17; refine (in_any _ _ l h _ _ (q1' _ _) (q2' _ _)).mono ?_; rintro e w' ⟨rfl, rfl⟩) | (go_at_call 23; refine (isUpper_any _ _).mono ?_; rintro e w' ⟨rfl, rfl⟩))
        all_goals
          go_roundw
          case rel => exact ⟨k + 1, by omega, by go_num, by rw [HB.out], _, by first | exact (hS.set _ _).set _ _ | exact hS.set _ _, by first | exact (hR.stepD hlt hlh (by omega)).cuts false | exact hR.stepD hlt hlh (by omega)⟩
          case measure => simp [intOf]; omega
    · clear hcell q1' q2'
      obtain rfl : k = 256 := by omega
      have HB : bel l h (256 : Nat) = h := by
        by_cases e : h = 255
        · rw [bel_mid (by omega) (by omega)]; omega
        · exact bel_hi hlh (by omega)
      rw [HB]
      clear HB
      go_wp2
      have hst0 := hS
      have hr0 := hR
      clear hlt hk hS hR q1 q2 hfz
      go_loopw [7, 6] (fun i b wr => ∃ c : Int, -1 ≤ c ∧ c ≤ 255 ∧ i = .int .i64 c ∧ b = .int .i64 (abv l h c) ∧ ∃ cur, St w wr cur ∧ Rng l h 256 cur) (fun i _ _ => (intOf i + 1).toNat)
      case atStart => exact ⟨255, by omega, by omega, rfl, by rw [abv_hi hh], cur, hst0, hr0⟩
      case round =>
        obtain ⟨c, hc0, hc255, rfl, rfl, cur2, hS, hR⟩ := hrel
        have hX := hS.row
        have hcell : ∀ j, j < 834 → ∃ v, wr.cell? ⟨w.heap.size + 1, j, none⟩ = some v := fun j hj => by
          rw [cell_of_row _ _ _ _ _ _ hX]; exact ⟨_, Array.getElem?_eq_getElem (by rw [hR.size]; exact hj)⟩
        have hfz : ∀ j, wr.frozen? ⟨w.heap.size + 1, j, none⟩ = false := fun j => frozen_of_row _ _ _ _ _ hX
        by_cases hpos : 0 ≤ c
        · obtain ⟨m, rfl⟩ : ∃ m : Nat, c = m := ⟨c.toNat, by omega⟩
          obtain ⟨v1, hv1⟩ := hcell (258 + m) (by omega)
          have hv2 : wr.cell? ⟨w.heap.size + 1, 2 + m, none⟩ = some (.bool (inB l h m)) := by
            rw [cell_of_row _ _ _ _ _ _ hX, hR.inn m (by omega)]; simp; omega
          clear hcell hX
          by_cases hch : h ≤ (m : Int)
          · have ha : abv l h m = -1 := abv_hi hch
            by_cases hch2 : h < (m : Int)
            · have hin : inB l h m = false := inB_f2 hch2
              have HA : Hid (abv l h ((m : Int) - 1) = -1) := abv_hi (by omega)
              go_wp2
              go_roundw
              case rel => exact ⟨(m : Int) - 1, by omega, by omega, rfl, by first | (rw [HA.out]; done) | rw [HA.out, ha], _, hS, hR⟩
              case measure => simp [intOf]
            · have hin : inB l h m = true := inB_t (by omega) (by omega)
              have HA : Hid (abv l h ((m : Int) - 1) = m) := by
                have := abv_mid (l := l) (h := h) (k := (m : Int) - 1) (by omega) (by omega)
                show abv l h ((m : Int) - 1) = m
                rw [this]; omega
              go_wp2
              go_roundw
              case rel => exact ⟨(m : Int) - 1, by omega, by omega, rfl, by first | (rw [HA.out]; done) | rw [HA.out, ha], _, hS, hR⟩
              case measure => simp [intOf]
          · have ab := abv_bd (k := (m : Int)) hl0 hlh hh (by omega) (by omega)
            obtain ⟨ab1, ab2⟩ := ab
            by_cases hch2 : l ≤ (m : Int)
            · have hin : inB l h m = true := inB_t hch2 (by omega)
              have HA : Hid (abv l h ((m : Int) - 1) = m) := by
                have := abv_mid (l := l) (h := h) (k := (m : Int) - 1) (by omega) (by omega)
                show abv l h ((m : Int) - 1) = m
                rw [this]; omega
              go_wp2
              go_roundw
              case rel => exact ⟨(m : Int) - 1, by omega, by omega, rfl, by rw [HA.out], _, hS.set _ _, hR.next m (by omega) _⟩
              case measure => simp [intOf]
            · have hin : inB l h m = false := inB_f1 (by omega)
              have HA : Hid (abv l h ((m : Int) - 1) = abv l h m) := by
                show abv l h ((m : Int) - 1) = abv l h m
                by_cases e : (m : Int) + 1 = l
                · rw [abv_lo hlh (by omega), abv_mid (by omega) (by omega)]; omega
                · rw [abv_lo hlh (by omega), abv_lo hlh (by omega)]
              go_wp2
              go_roundw
              case rel => exact ⟨(m : Int) - 1, by omega, by omega, rfl, by rw [HA.out], _, hS.set _ _, hR.next m (by omega) _⟩
              case measure => simp [intOf]
        · obtain rfl : c = -1 := by omega
          have HA : abv l h (-1) = l := by
            by_cases e : l = 0
            · rw [abv_mid (by omega) (by omega)]; omega
            · exact abv_lo hlh (by omega)
          rw [HA]
          obtain ⟨v0, hv0⟩ := hcell 0 (by omega)
          obtain ⟨v1, hv1⟩ := hcell 1 (by omega)
          clear HA hcell hX
          go_wp2
          have hst0 := (hS.set 0 (.int .u8 l)).set 1 (.int .u8 h)
          have hr0 := hR.done
          clear hS hR hfz hv0 hv1
          go_loopw [56] (fun i wr => ∃ k : Nat, k ≤ 63 ∧ i = .int .i64 k ∧ ∃ cur, St w wr cur ∧ Run l h k cur) (fun i _ => 63 - (intOf i).toNat)
          case atStart => exact ⟨0, by omega, rfl, _, hst0, hr0⟩
          case round =>
            obtain ⟨k, hk, rfl, cur3, hS, hR⟩ := hrel
            have hX := hS.row
            have hcell : ∀ j, j < 834 → ∃ v, wr.cell? ⟨w.heap.size + 1, j, none⟩ = some v := fun j hj => by
              rw [cell_of_row _ _ _ _ _ _ hX]; exact ⟨_, Array.getElem?_eq_getElem (by rw [hR.size]; exact hj)⟩
            have hfz : ∀ j, wr.frozen? ⟨w.heap.size + 1, j, none⟩ = false := fun j => frozen_of_row _ _ _ _ _ hX
            by_cases hlt : k < 63
            · obtain ⟨v1, hv1⟩ := hcell (770 + k) (by omega)
              have hv2 : wr.cell? ⟨w.heap.size + 1, 1, none⟩ = some (.int .u8 h) := by
                rw [cell_of_row _ _ _ _ _ _ hX]; exact hR.mx
              clear hcell hX
              go_wp2
              go_roundw
              case rel => exact ⟨k + 1, by omega, by go_num, _, hS.set _ _, hR.step hlt⟩
              case measure => simp [intOf]; omega
            · clear hcell hfz
              obtain rfl : k = 63 := by omega
              go_wp2_with (first | refine wpList_load_row rfl 35 _ rfl _ rfl 35 cur3 (0, 0) _ hS.row Yba.underlying35 rfl (by rw [hR.size]; exact size35) ?_ | refine wpList_store_row rfl 35 _ _ rfl _ cur3 rfl rfl 35 Z35 hS.res (by rw [hR.size]; exact size35) (by rw [hR.size]; exact Z35_size) (by rw [Array.all_eq_true_iff_forall_mem]; intro v hv; exact hR.one v (by simpa using hv)) ?_)
              refine bodyPost_ret (v := .agg cur3) (results_cell_row (P := Yba.prog) Yba.results16 _ _ w.heap.size 35 cur3 (0, 0) _ rfl (setRow_heap _ _ _ _ _ _ hS.res) Yba.underlying35 rfl (by rw [hR.size]; exact size35)) rfl ⟨cur3, rfl, hR, ?_⟩
              exact hS.old.trans ⟨rfl, rfl, rfl, by simp, fun q hq => setRow_other _ _ _ _ (by omega)⟩
end Go.Proofs.Ybulkbdaq
