/-
  zzs2707bsetup BY ITS CONTRACT.
-/
import Derived.Test.YbulkbdaqPred
import Derived.Deep.CutBlock
namespace Go.Proofs.Ybulkbdaq
open Go.RowKit

/-- A slice of strings that came in reads as ss. -/
structure HasS (w : World) (a : Option Addr) (n : Nat) (ss : List ByteArray) : Prop where
  len : ss.length = n
  max : n ≤ maxLen
  at_ : 0 < n → ∃ b o, a = some ⟨b, o, none⟩ ∧ ∀ i, i < n → w.cell? ⟨b, o + i, none⟩ = some (.string (ss.getD i ByteArray.empty))
  fit : ∀ s ∈ ss, s.size ≤ maxLen

/-- The blocks of a name: of the first three strings. -/
def blocks (ss : List ByteArray) (k : Nat) : List (List Int) := (ss.take k).map lab
theorem blocks_succ (ss : List ByteArray) (k : Nat) (hk : k < ss.length) : blocks ss (k + 1) = blocks ss k ++ [lab ss[k]] := by
  unfold blocks; rw [List.take_succ_eq_append_getElem hk, List.map_append]; rfl
theorem lab_len (s : ByteArray) : 2 ≤ (lab s).length ∧ (lab s).length ≤ 21 := by
  have := labB_len s
  simp [lab]; omega
theorem blocks_len (ss : List ByteArray) (k : Nat) : (blocks ss k).flatten.length ≤ 21 * k := by
  induction k with
  | zero => simp [blocks]
  | succ k ih =>
    by_cases hk : k < ss.length
    · have := lab_len ss[k]
      rw [blocks_succ ss k hk, List.flatten_append, List.length_append]
      simp only [List.flatten_cons, List.flatten_nil, List.append_nil]
      omega
    · have : blocks ss (k + 1) = blocks ss k := by
        unfold blocks; rw [List.take_of_length_le (by omega), List.take_of_length_le (by omega)]
      rw [this]; omega

/-- The label that the set-up makes of lab; the blocks between label and apex. -/
def labelOf (hl : Bool) (l : List Int) : List Int := if hl then (if l = [] then [97] else (l.take 63).map fun x => 97 + x % 8) else []
def midsOf (hl : Bool) (ss : List ByteArray) : List (List Int) := if hl then blocks ss 3 else []

/-- What stands behind 'if hasLabel { .. }'. -/
structure Mid (w2 wx : World) (hl : Bool) (bl : List Int) (ms : List ByteArray) (La : Option Addr) (Ln Lc : Nat) (Ra : Option Addr) (Rn Rc : Nat) (Ta : Option Addr) (Tn Tc : Nat) : Prop where
  lab : Has wx La Ln Lc (labelOf hl bl)
  labN : La = none ↔ hl = false
  rest : Own wx w2.heap.size Ra Rn Rc (midsOf hl ms).flatten
  last : Has wx Ta Tn Tc ((midsOf hl ms).getLastD [])
  lastN : Ta = none ↔ midsOf hl ms = []
  old : Below w2.heap.size w2 wx
  sepL : ∀ k, blk La = some k → blk Ra ≠ some k
  sepT : ∀ k, blk Ta = some k → blk Ra ≠ some k
  ltL : ∀ k, blk La = some k → k < wx.heap.size ∧ w2.heap.size ≤ k
  ltT : ∀ k, blk Ta = some k → k < wx.heap.size ∧ w2.heap.size ≤ k

def apexOf (ss : List ByteArray) : List Int := (blocks ss 3).flatten ++ [0]
theorem labelOf_len (hl : Bool) (l : List Int) : (labelOf hl l).length ≤ 63 ∧ (hl = true → 1 ≤ (labelOf hl l).length) := by
  unfold labelOf
  cases hl
  · simp
  · by_cases h : l = []
    · simp [h]
    · have : 0 < l.length := List.length_pos_iff.2 h
      rw [if_pos rfl, if_neg h]
      simp only [List.length_map, List.length_take]
      omega
theorem midsOf_len (hl : Bool) (ss : List ByteArray) : (midsOf hl ss).flatten.length ≤ 63 := by
  unfold midsOf
  split
  · exact blocks_len ss 3
  · simp

/-- What the set-up hands back. -/
structure SetUp (w w' : World) (hl : Bool) (bl : List Int) (as_ ms : List ByteArray) (x : Int) (La : Option Addr) (Ln Lc : Nat) (Ra : Option Addr) (Rn Rc : Nat) (Aa : Option Addr) (An Ac : Nat) (Ta : Option Addr) (Tn Tc : Nat) (Mx : Int) : Prop where
  lab : Has w' La Ln Lc (labelOf hl bl)
  labN : La = none ↔ hl = false
  rest : Has w' Ra Rn Rc ((midsOf hl ms).flatten ++ apexOf as_)
  apex : Has w' Aa An Ac (apexOf as_)
  last : Has w' Ta Tn Tc ((midsOf hl ms).getLastD [])
  lastN : Ta = none ↔ midsOf hl ms = []
  old : Below w.heap.size w w'
  ltL : ∀ k, blk La = some k → k < w'.heap.size
  ltR : ∀ k, blk Ra = some k → k < w'.heap.size
  ltA : ∀ k, blk Aa = some k → k < w'.heap.size
  ltT : ∀ k, blk Ta = some k → k < w'.heap.size
  mx : ∃ wl : Nat, wl = (if hl then 1 + Ln + Rn else Rn) ∧ Mx = wl + x % (256 - wl)

/-- The two result blocks of the set-up, still zero; all that was there as it was. -/
structure Two (w wr : World) : Prop where
  old : Below w.heap.size w wr
  z : wr.heap[w.heap.size]? = some (.cells #[.int .i64 0, .int .i64 0] 30 (0, 0))
  r : wr.heap[w.heap.size + 1]? = some (.cells Z35 35 (0, 0))
theorem Two.size {w wr : World} (t : Two w wr) : w.heap.size + 2 ≤ wr.heap.size := by
  rcases Nat.lt_or_ge (w.heap.size + 1) wr.heap.size with h | h
  · omega
  · have := t.r; rw [Array.getElem?_eq_none h] at this; cases this
theorem Two.step {w wr wr' : World} (t : Two w wr) (h : Below (w.heap.size + 2) wr wr') : Two w wr' :=
  ⟨t.old.trans (h.mono (by omega)), (h.block _ (by omega)).trans t.z, (h.block _ (by omega)).trans t.r⟩
theorem Two.stepAll {w wr wr' : World} (t : Two w wr) (h : Below wr.heap.size wr wr') : Two w wr' := t.step (h.mono t.size)

/-- The label while it is being filled. -/
def fillOf (bl : List Int) (N k : Nat) : List Int := (bl.take k).map (fun x => 97 + x % 8) ++ List.replicate (N - k) 0
theorem fillOf_zero (bl : List Int) (N : Nat) : fillOf bl N 0 = List.replicate N 0 := by simp [fillOf]
theorem fillOf_succ (bl : List Int) (N k : Nat) (hk : k < N) (hb : k < bl.length) : (fillOf bl N k).set k (97 + bl[k] % 8) = fillOf bl N (k + 1) := by
  unfold fillOf
  have e1 : ((bl.take k).map (fun x => 97 + x % 8)).length = k := by rw [List.length_map, List.length_take]; omega
  rw [List.set_append_right _ _ (by omega), e1, Nat.sub_self, List.take_succ_eq_append_getElem hb, List.map_append]
  obtain ⟨d, hd⟩ : ∃ d, N - k = d + 1 := ⟨N - k - 1, by omega⟩
  rw [hd, show N - (k + 1) = d from by omega]
  simp [List.replicate_succ]
theorem fillOf_done (bl : List Int) (N : Nat) : fillOf bl N N = (bl.take N).map (fun x => 97 + x % 8) := by simp [fillOf]
theorem fillOf_len (bl : List Int) (N k : Nat) (hk : k ≤ N) (hb : k ≤ bl.length) : (fillOf bl N k).length = N := by
  unfold fillOf; rw [List.length_append, List.length_map, List.length_take, List.length_replicate]; omega

theorem res11 (tmps : Array Value) (w : World) (v14 v15 v16 v17 v20 v21 : Value) (H G : Nat) (c1 c2 : Array Value) (h14 : tmps.getD 14 undef = v14) (h15 : tmps.getD 15 undef = v15) (h16 : tmps.getD 16 undef = v16) (h17 : tmps.getD 17 undef = v17)
    (h18 : tmps.getD 18 undef = .pointer (some ⟨H, 0, none⟩)) (h19 : tmps.getD 19 undef = .pointer (some ⟨G, 0, none⟩)) (h20 : tmps.getD 20 undef = v20) (h21 : tmps.getD 21 undef = v21)
    (l1 : (loadVar 30 ⟨H, 0, none⟩).run Yba.prog w = .ok (.agg c1) w) (l2 : (loadVar 35 ⟨G, 0, none⟩).run Yba.prog w = .ok (.agg c2) w) :
    (results Yba.f11 tmps).run Yba.prog w = .ok (.tuple #[v14, v15, v16, v17, .agg c1, .agg c2, v20, v21]) w := by
  subst h14 h15 h16 h17 h20 h21
  have e18 : tmps[18]?.getD undef = .pointer (some ⟨H, 0, none⟩) := by simpa using h18
  have e19 : tmps[19]?.getD undef = .pointer (some ⟨G, 0, none⟩) := by simpa using h19
  simp [results, Yba.results11, e18, e19, asAddr, l1, l2]

set_option maxRecDepth 20000 in
set_option maxHeartbeats 2000000 in
theorem setup (w : World) (hl : Bool) (ba : Option Addr) (bn bc : Nat) (bl : List Int) (hb : Has w ba bn bc bl) (hbd : ∀ x ∈ bl, 0 ≤ x ∧ x ≤ 255)
    (aa : Option Addr) (an ac : Nat) (as_ : List ByteArray) (ha : HasS w aa an as_) (ma : Option Addr) (mn mc : Nat) (ms : List ByteArray) (hm : HasS w ma mn ms)
    (p s x : Int) (hp : 0 ≤ p ∧ p ≤ 255) (hs : 0 ≤ s ∧ s ≤ 255) (hx : 0 ≤ x ∧ x ≤ 255) :
    Calls Yba.prog 11 #[.bool hl, .slice ba bn bc, .slice aa an ac, .slice ma mn mc, .int .u8 p, .int .u8 s, .int .u8 x] w fun e w' => ∃ La Ln Lc Ra Rn Rc Aa An Ac Ta Tn Tc cur Mx,
      e = .returned (.tuple #[.slice La Ln Lc, .slice Ra Rn Rc, .slice Aa An Ac, .slice Ta Tn Tc, .agg #[.int .i64 (An : Nat), .int .i64 Mx], .agg cur, .int .u8 (97 + p % 4), .int .u8 (97 + p % 4 + s % 30)]) ∧
      Run (97 + p % 4) (97 + p % 4 + s % 30) 63 cur ∧ SetUp w w' hl bl as_ ms x La Ln Lc Ra Rn Rc Aa An Ac Ta Tn Tc Mx := by
  have zv := zv35
  have amx := ha.max; unfold maxLen at amx
  go_enter Yba.func11, Yba.ntmps11
  go_upto_block 0 with fail
  go_cut [16] from 31 (fun v wx => ∃ a n c, v = .slice a n c ∧ Own wx (w.heap.size + 2) a n c (blocks as_ 3).flatten ∧ Two w wx)
  case first =>
   go_wp2_with fail
   go_loopw [16, 22] (fun v i wr => ∃ k : Nat, k ≤ 3 ∧ k ≤ an ∧ i = .int .i64 k ∧ ∃ a n c, v = .slice a n c ∧ Own wr (w.heap.size + 2) a n c (blocks as_ k).flatten ∧ Two w wr) (fun _ i _ => 3 - (intOf i).toNat)
   case atStart =>
     refine ⟨0, by omega, by omega, rfl, _, _, _, rfl, Own.empty _ _, ?_, ?_, ?_⟩
     · exact ((Below.refl _ w).alloc (Nat.le_refl _) _).alloc (by simp) _
     · exact heap_alloc2_old w _ _
     · exact heap_alloc2_new w _ _
   case round =>
     obtain ⟨k, hk3, hkn, rfl, a, n, c, rfl, ho, ht⟩ := hrel
     have hts := ht.size
     by_cases hlt : k < an ∧ k < 3
     · obtain ⟨h1, h2⟩ := hlt
       have hlen := ha.len
       obtain ⟨b, o, rfl, hcell⟩ := ha.at_ (by omega)
       have hck : wr.cell? ⟨b, o + k, none⟩ = some (.string as_[k]) := by
         have h0 := hcell k h1
         refine (ht.old.cell (p := ⟨b, o + k, none⟩) (World.block_lt_of_cell? w _ h0)).trans ?_
         rw [h0]; simp [List.getD, List.getElem?_eq_getElem (show k < as_.length by omega)]
       have hfit := ha.fit as_[k] (List.getElem_mem (by omega))
       go_wp2_with (first | (go_at_call 15; refine (blab _ hfit _).mono ?_; rintro e w1 ⟨a1, n1, c1, rfl, g1, nn1, b1⟩) | (at_builtin; refine wpApp rfl _ _ rfl (w.heap.size + 2) _ _ _ _ rfl (ho.belowAll b1) _ _ _ _ rfl g1.has ?_ ?_ ?_))
       · have e1 := g1.len; have e2 := ho.len; have e3 := lab_len as_[k]; have e4 := blocks_len as_ k; omega
       · have := b1.size; omega
       intro a2 c2 w2 g2 q2 k2 _
       have t2 : Two w w2 := (ht.stepAll b1).step ((Below.refl _ _).grown q2 (by have := b1.size; omega) (fun j e => (ho.lt j e).1))
       have HB : Hid (blocks as_ (k + 1) = blocks as_ k ++ [lab as_[k]]) := blocks_succ as_ k (by omega)
       go_wp2
       go_roundw
       case rel => exact ⟨k + 1, by omega, by omega, by go_num, _, _, _, rfl, by rw [HB.out]; simpa using g2, t2⟩
       case measure => simp [intOf]; omega
     · have hfl : (blocks as_ k).flatten = (blocks as_ 3).flatten := by
         have hlen := ha.len
         by_cases e : k = 3
         · rw [e]
         · unfold blocks; rw [List.take_of_length_le (by omega), List.take_of_length_le (by omega)]
       have n16 : n ≤ 63 := by
         have e2 := ho.len; have e4 := blocks_len as_ k; omega
       have HF : Hid ((blocks as_ k).flatten = (blocks as_ 3).flatten) := hfl
       clear hfl
       by_cases h3 : k < 3
       · have h4 : ¬ k < an := by omega
         go_wp2
         all_goals
           go_meet
           case rel => exact ⟨_, _, _, rfl, by rw [← HF.out]; exact ho, ht⟩
       · go_wp2
         all_goals
           go_meet
           case rel => exact ⟨_, _, _, rfl, by rw [← HF.out]; exact ho, ht⟩
  case rest =>
  obtain ⟨a, n, c, hv, ho, ht⟩ := hcut
  subst hv
  have hts := ht.size
  have n16 : n ≤ 63 := by
    have e2 := ho.len; have e4 := blocks_len as_ 3; omega
  go_wp2_with (at_builtin; refine wpApp rfl _ _ rfl (w.heap.size + 2) _ _ _ _ rfl (ho.alloc _) _ _ _ _ rfl (hasLit _ _) ?_ ?_ ?_)
  · omega
  · simp; omega
  intro a2 c2 w2 g2 q2 k2 nn2
  have t2 : Two w w2 := (ht.stepAll ((Below.refl _ _).alloc (Nat.le_refl _) _)).step ((Below.refl _ _).grown q2 (by simp; omega) (fun j e => (ho.lt j e).1))
  have hts2 := t2.size
  have nA : a2 ≠ none := by simpa using nn2
  clear q2 k2 nn2 ho ht hts
  go_upto_if 51 with fail
  go_cut [14, 15, 17] from 31 (fun vl vr vt wx => ∃ La Ln Lc Ra Rn Rc Ta Tn Tc, vl = .slice La Ln Lc ∧ vr = .slice Ra Rn Rc ∧ vt = .slice Ta Tn Tc ∧ Mid w2 wx hl bl ms La Ln Lc Ra Rn Rc Ta Tn Tc)
  case first =>
    cases hl
    · go_wp2
      go_meet
      case rel => exact ⟨_, _, _, _, _, _, _, _, _, rfl, rfl, rfl, Has.empty _, by simp, by simpa [midsOf] using Own.empty w2 w2.heap.size, by simpa [midsOf] using Has.empty w2, by simp [midsOf], Below.refl _ _, by simp [blk], by simp [blk], by simp [blk], by simp [blk]⟩
    · have mmx := hm.max; unfold maxLen at mmx
      go_upto_block 2 with fail
      go_cut [15, 17] from 31 (fun vr vt wx => ∃ ra rn rc ta tn tc, vr = .slice ra rn rc ∧ vt = .slice ta tn tc ∧ Own wx w2.heap.size ra rn rc (blocks ms 3).flatten ∧ Has wx ta tn tc ((blocks ms 3).getLastD []) ∧
        (ta = none ↔ blocks ms 3 = []) ∧ (∀ j, blk ta = some j → blk ra ≠ some j ∧ j < wx.heap.size ∧ w2.heap.size ≤ j) ∧ Below w2.heap.size w2 wx)
      case first =>
        go_wp2_with fail
        go_loopw [15, 17, 23] (fun vr vt i wr => ∃ k : Nat, k ≤ 3 ∧ k ≤ mn ∧ i = .int .i64 k ∧ ∃ ra rn rc ta tn tc, vr = .slice ra rn rc ∧ vt = .slice ta tn tc ∧ Own wr w2.heap.size ra rn rc (blocks ms k).flatten ∧ Has wr ta tn tc ((blocks ms k).getLastD []) ∧
          (ta = none ↔ k = 0) ∧ (∀ j, blk ta = some j → blk ra ≠ some j ∧ j < wr.heap.size ∧ w2.heap.size ≤ j) ∧ Below w2.heap.size w2 wr) (fun _ _ i _ => 3 - (intOf i).toNat)
        case atStart => exact ⟨0, by omega, by omega, rfl, _, _, _, _, _, _, rfl, rfl, Own.empty _ _, Has.empty _, by simp, by simp [blk], Below.refl _ _⟩
        case round =>
          obtain ⟨k, hk3, hkn, rfl, ra, rn, rc, ta, tn, tc, rfl, rfl, ho, hT, hTn, hsep, hbl⟩ := hrel
          have hbs := hbl.size
          by_cases hlt : k < mn ∧ k < 3
          · obtain ⟨h1, h2⟩ := hlt
            have hlen := hm.len
            obtain ⟨b, o, rfl, hcell⟩ := hm.at_ (by omega)
            have hck : wr.cell? ⟨b, o + k, none⟩ = some (.string ms[k]) := by
              have h0 := hcell k h1
              have hb0 := World.block_lt_of_cell? w _ h0
              refine (hbl.cell (p := ⟨b, o + k, none⟩) (by have : b < w.heap.size := hb0; omega)).trans ((t2.old.cell (p := ⟨b, o + k, none⟩) hb0).trans ?_)
              rw [h0]; simp [List.getD, List.getElem?_eq_getElem (show k < ms.length by omega)]
            have hfit := hm.fit ms[k] (List.getElem_mem (by omega))
            go_wp2_with (first | (go_at_call 15; refine (blab _ hfit _).mono ?_; rintro e w3 ⟨a3, n3, c3, rfl, g3, nn3, b3⟩) | (at_builtin; refine wpApp rfl _ _ rfl w2.heap.size _ _ _ _ rfl (ho.belowAll b3) _ _ _ _ rfl g3.has ?_ ?_ ?_))
            · have e1 := g3.len; have e2 := ho.len; have e3 := lab_len ms[k]; have e4 := blocks_len ms k; omega
            · have := b3.size; omega
            intro a4 c4 w4 g4 q4 k4 _
            have b4 : Below w2.heap.size w2 w4 := (hbl.trans (b3.mono hbs)).grown q4 (by have := b3.size; omega) (fun j e => (ho.lt j e).1)
            have hsep4 : ∀ j, blk a3 = some j → blk a4 ≠ some j ∧ j < w4.heap.size ∧ w2.heap.size ≤ j := by
              intro j hj
              obtain ⟨j1, j2⟩ := g3.lt j hj
              refine ⟨fun e => ?_, Nat.lt_of_lt_of_le j2 q4.size, by omega⟩
              rcases k4 with k4 | k4
              · have := (ho.lt j (k4 ▸ e)).2; omega
              · rw [k4] at e; simp at e; omega
            have h4 : Has w4 a3 n3 c3 (lab ms[k]) := g3.has.grown q4 (fun _ j hj e => by
              obtain ⟨j1, j2⟩ := g3.lt j hj
              have := (ho.lt j e.symm).2; omega)
            have HB : Hid (blocks ms (k + 1) = blocks ms k ++ [lab ms[k]]) := blocks_succ ms k (by omega)
            clear q4 k4 hck hcell hT hsep
            go_wp2
            go_roundw
            case rel => exact ⟨k + 1, by omega, by omega, by go_num, _, _, _, _, _, _, rfl, rfl, by rw [HB.out]; simpa using g4, by rw [HB.out]; simpa using h4, by simp [nn3], hsep4, b4⟩
            case measure => simp [intOf]; omega
          · have hfl : blocks ms k = blocks ms 3 := by
              have hlen := hm.len
              by_cases e : k = 3
              · rw [e]
              · unfold blocks; rw [List.take_of_length_le (by omega), List.take_of_length_le (by omega)]
            have hnl : blocks ms 3 = [] ↔ k = 0 := by
              rw [← hfl]
              have hlen := hm.len
              unfold blocks
              rw [List.map_eq_nil_iff, List.take_eq_nil_iff]
              constructor
              · rintro (h | h)
                · exact h
                · have : ms.length = 0 := by rw [h]; rfl
                  omega
              · intro h; exact Or.inl h
            have HF : Hid (blocks ms k = blocks ms 3) := hfl
            have HN : Hid (blocks ms 3 = [] ↔ k = 0) := hnl
            clear hfl hnl
            by_cases h3 : k < 3
            · have h4 : ¬ k < mn := by omega
              go_wp2
              all_goals
                go_meet
                case rel => exact ⟨_, _, _, _, _, _, rfl, rfl, by rw [← HF.out]; exact ho, by rw [← HF.out]; exact hT, by rw [HN.out]; exact hTn, hsep, hbl⟩
            · go_wp2
              all_goals
                go_meet
                case rel => exact ⟨_, _, _, _, _, _, rfl, rfl, by rw [← HF.out]; exact ho, by rw [← HF.out]; exact hT, by rw [HN.out]; exact hTn, hsep, hbl⟩
      case rest =>
      obtain ⟨ra, rn, rc, ta, tn, tc, h15, h17, ho, hT, hTn, hsep, hbl⟩ := hcut
      subst h15
      subst h17
      have hbs := hbl.size
      have hbl0 := hb.len
      have bmx := hb.max; have ble := hb.le; unfold maxLen at bmx
      obtain ⟨ii, hi, hz0, hz1, hz2⟩ := info_parts info5
      by_cases h0 : bn = 0
      · have hbl1 : bl = [] := List.eq_nil_of_length_eq_zero (by omega)
        have HB : Hid (labelOf true bl = [97]) := by rw [hbl1]; rfl
        clear hbl1
        go_wp2
        go_meet
        case rel =>
          exact ⟨_, _, _, _, _, _, _, _, _, rfl, rfl, rfl, by rw [HB.out]; exact hasLit _ 97, by simp, ho.alloc _, hT.alloc _, hTn, hbl.alloc (by omega) _,
            fun k hk e => by have := (ho.lt k e).2; simp [blk] at hk; omega, fun k hk => (hsep k hk).1, fun k hk => by simp [blk] at hk; simp; omega, fun k hk => by have := (hsep k hk).2; simp; omega⟩
      · have hne : (bn : Int) ≠ 0 := by omega
        have HB : Hid (labelOf true bl = (bl.take 63).map (fun x => 97 + x % 8)) := by
          show labelOf true bl = _
          unfold labelOf
          rw [if_pos rfl, if_neg (fun e => h0 (by rw [← hbl0, e]; rfl))]
        have hne2 : ((bn : Int) == 0) = false := by simpa using hne
        clear hne
        go_upto_if 77 with fail
        go_cut [25] from 31 (fun v wy => wc = wy ∧ ∃ N : Nat, v = .int .i64 N ∧ N ≤ 63 ∧ N ≤ bn ∧ 1 ≤ N ∧ bl.take 63 = bl.take N)
        case first =>
          by_cases hbig : 63 < bn
          · go_wp2
            go_meet
            case rel => exact ⟨rfl, 63, rfl, by omega, by omega, by omega, rfl⟩
          · go_wp2
            go_meet
            case rel => exact ⟨rfl, bn, rfl, by omega, by omega, by omega, by rw [List.take_of_length_le (by omega), List.take_of_length_le (by omega)]⟩
        case rest =>
        obtain ⟨hwy, N, hv, hN1, hN2, hN3, hNt⟩ := hcut
        subst hwy
        subst hv
        have HT : Hid (bl.take 63 = bl.take N) := hNt
        clear hNt
        go_wp2_with (at_make; refine wpList_make_full _ rfl _ _ 22 rfl wc.heap.size 5 ii (.int .u8 0) 1 Yba.underlying22 hi hz0 hz1 _ _ _ _ N rfl rfl rfl rfl ?_ ?_ ?_ ?_)
        · rw [hz2]; omega
        · unfold maxLen; omega
        · exact Nat.le_refl _
        intro w5 hown hgr
        have b5 : Below wc.heap.size wc w5 := (Below.refl _ _).grown hgr (Nat.le_refl _) (fun k e => by cases e)
        have r5 : w5.ownsRow wc.heap.size 5 1 (.slice (some ⟨wc.heap.size, 0, none⟩) N N) N ((fillOf bl N 0).map (Value.int .u8)) := by
          rw [fillOf_zero, List.map_replicate]
          have e := toList_madeCells_one (.int .u8 0) N
          have hown' : w5.ownsRow wc.heap.size 5 1 (.slice (some ⟨wc.heap.size, 0, none⟩) N N) N (madeCells #[Value.int .u8 0] N).toList := by simpa using hown
          rw [e] at hown'
          exact hown'
        clear hown hgr
        obtain ⟨lb, lf, hba, hlcell⟩ := hb.at_ (by omega)
        subst hba
        go_wp2_with fail
        go_loopw [26] (fun i wr => ∃ k : Nat, k ≤ N ∧ i = .int .i64 k ∧ wr.ownsRow wc.heap.size 5 1 (.slice (some ⟨wc.heap.size, 0, none⟩) N N) N ((fillOf bl N k).map (Value.int .u8)) ∧ Below wc.heap.size wc wr) (fun i _ => N - (intOf i).toNat)
        case atStart => exact ⟨0, by omega, rfl, r5, b5⟩
        case round =>
          obtain ⟨k, hk, rfl, hrow, hbw⟩ := hrel
          by_cases hlt : k < N
          · have hkb : k < bl.length := by omega
            have hflen := fillOf_len bl N k (by omega) (by omega)
            have hc1 : wr.cell? ⟨wc.heap.size, k, none⟩ = some (.int .u8 ((fillOf bl N k).getD k 0)) := by
              rw [hrow.cellAt k (by omega)]
              simp [List.getD, List.getElem?_eq_getElem (show k < (fillOf bl N k).length by omega)]
            have hfz := hrow.frozenAt k
            have hlx : wr.cell? ⟨lb, lf + k, none⟩ = some (.int .u8 bl[k]) := by
              have h0 := hlcell k (by omega)
              have hb0 : lb < w.heap.size := World.block_lt_of_cell? w _ h0
              refine (hbw.cell (p := ⟨lb, lf + k, none⟩) (by show lb < _; omega)).trans ((hbl.cell (p := ⟨lb, lf + k, none⟩) (by show lb < _; omega)).trans ((t2.old.cell (p := ⟨lb, lf + k, none⟩) hb0).trans ?_))
              rw [h0]; simp [List.getD, List.getElem?_eq_getElem (show k < bl.length by omega)]
            have hxb := hbd bl[k] (List.getElem_mem (by omega))
            obtain ⟨hx0, hx1⟩ := hxb
            have hst := hrow.stored k (.int .u8 (97 + bl[k] % 8))
            have HS : Hid ((fillOf bl N k).set k (97 + bl[k] % 8) = fillOf bl N (k + 1)) := fillOf_succ bl N k hlt (by omega)
            have hst' : (wr.setCell ⟨wc.heap.size, k, none⟩ (.int .u8 (97 + bl[k] % 8))).ownsRow wc.heap.size 5 1 (.slice (some ⟨wc.heap.size, 0, none⟩) N N) N ((fillOf bl N (k + 1)).map (Value.int .u8)) := by
              rw [← HS.out, List.map_set]; exact hst.1
            have hbw' : Below wc.heap.size wc (wr.setCell ⟨wc.heap.size, k, none⟩ (.int .u8 (97 + bl[k] % 8))) := hbw.setCell (Nat.le_refl _) _
            clear hst hrow hbw hlcell
            go_wp2
            go_roundw
            case rel => exact ⟨k + 1, by omega, by go_num, hst', hbw'⟩
            case measure => simp [intOf]; omega
          · obtain rfl : k = N := by omega
            have HD : Hid (fillOf bl k k = (bl.take k).map (fun x => 97 + x % 8)) := fillOf_done bl k
            go_wp2
            go_meet
            case rel =>
              have hO : Own wr wc.heap.size (some ⟨wc.heap.size, 0, none⟩) k k (labelOf true bl) := by
                rw [HB.out, HT.out, ← HD.out]
                exact ⟨fillOf_len bl k k (Nat.le_refl _) (by omega), hrow⟩
              have hsz : wc.heap.size < wr.heap.size := (hO.lt _ rfl).2
              exact ⟨_, _, _, _, _, _, _, _, _, rfl, rfl, rfl, hO.has, by simp, ho.carry (fun j _ hj => hbw.block j hj), hT.belowAll hbw, hTn, hbl.trans (hbw.mono hbs),
                fun j hj e => by have := (ho.lt j e).2; simp [blk] at hj; omega, fun j hj => (hsep j hj).1, fun j hj => by simp [blk] at hj; omega, fun j hj => by have := (hsep j hj).2; omega⟩
  case rest =>
  obtain ⟨La, Ln, Lc, Ra, Rn, Rc, Ta, Tn, Tc, h14, h15, h17, M⟩ := hcut
  subst h14
  subst h15
  subst h17
  have m1 := M.lab.len
  have m2 := M.rest.len
  have m3 := g2.len
  have m4 := M.old.size
  clear zv
  go_wp2_with (at_builtin; refine wpApp rfl _ _ rfl w2.heap.size _ _ _ _ rfl M.rest _ _ _ _ rfl (g2.has.belowAll M.old) ?_ ?_ ?_)
  · have := midsOf_len hl ms; omega
  · exact m4
  intro a3 c3 w3 g3 q3 k3 nn3
  have b3 : Below w2.heap.size w2 w3 := M.old.grown q3 m4 (fun j e => (M.rest.lt j e).1)
  have L3 : Has w3 La Ln Lc (labelOf hl bl) := M.lab.grown q3 (fun _ k hk e => M.sepL k hk e.symm)
  have T3 : Has w3 Ta Tn Tc ((midsOf hl ms).getLastD []) := M.last.grown q3 (fun _ k hk e => M.sepT k hk e.symm)
  have lN := M.labN; have tN := M.lastN
  have A3 := g2.has.belowAll b3
  have ltL : ∀ k, blk La = some k → k < w3.heap.size := fun k hk => Nat.lt_of_lt_of_le (M.ltL k hk).1 q3.size
  have ltT : ∀ k, blk Ta = some k → k < w3.heap.size := fun k hk => Nat.lt_of_lt_of_le (M.ltT k hk).1 q3.size
  have ltA : ∀ k, blk a2 = some k → k < w3.heap.size := fun k hk => Nat.lt_of_lt_of_le (g2.lt k hk).2 b3.size
  have ltR : ∀ k, blk a3 = some k → k < w3.heap.size := fun k hk => (g3.lt k hk).2
  have t3 := t2.stepAll b3
  have geL : ∀ k, blk La = some k → w.heap.size + 2 ≤ k := fun k hk => Nat.le_trans t2.size (M.ltL k hk).2
  have geT : ∀ k, blk Ta = some k → w.heap.size + 2 ≤ k := fun k hk => Nat.le_trans t2.size (M.ltT k hk).2
  have geA : ∀ k, blk a2 = some k → w.heap.size + 2 ≤ k := fun k hk => (g2.lt k hk).1
  have geR : ∀ k, blk a3 = some k → w.heap.size + 2 ≤ k := fun k hk => Nat.le_trans t2.size (g3.lt k hk).1
  have r1 : Rn ≤ 63 := by have := midsOf_len hl ms; omega
  have r2 : Ln ≤ 63 := by have := (labelOf_len hl bl).1; omega
  have z3 := t3.size
  generalize hRn : Rn + (n + 1) = rn at g3 ⊢
  have HRn : Hid (Rn + (n + 1) = rn) := hRn
  have r3 : rn ≤ 127 := by omega
  have R3 := g3.has
  clear q3 k3 nn3 M m1 m2 m3 m4 g2 hRn g3 b3 hb ha hm
  have qn := q22n
  go_upto_if 100 with fail
  go_cut [27] from 31 (fun v wy => w3 = wy ∧ ∃ wl : Nat, v = .int .i64 wl ∧ wl = (if hl then 1 + Ln + rn else rn))
  case first =>
    cases hl
    · obtain rfl : La = none := lN.2 rfl
      go_wp2
      go_meet
      case rel => exact ⟨rfl, rn, rfl, rfl⟩
    · have hne : La ≠ none := fun e => by have := lN.1 e; cases this
      obtain ⟨la, rfl⟩ := Option.ne_none_iff_exists'.1 hne
      go_wp2
      go_meet
      case rel => exact ⟨rfl, 1 + Ln + rn, by go_num, rfl⟩
  case rest =>
  obtain ⟨hwy, wl, hv, hwl⟩ := hcut
  subst hwy
  subst hv
  have wl1 : wl ≤ 191 := by rw [hwl]; split <;> omega
  have HW : Hid (wl = (if hl then 1 + Ln + rn else rn)) := hwl
  clear hwl qn
  obtain ⟨hx0, hx1⟩ := hx
  obtain ⟨hp0, hp1⟩ := hp
  obtain ⟨hs0, hs1⟩ := hs
  have hw0 : 0 < (256 : Int) - wl := by omega
  have hq0 : 0 ≤ x % ((256 : Int) - wl) := Int.emod_nonneg _ (by omega)
  have hq1 : x % ((256 : Int) - wl) < (256 : Int) - wl := Int.emod_lt_of_pos _ hw0
  go_wp2_with fail
  refine (nor _ ⟨w3.heap.size, 0, none⟩ ⟨w3.heap.size + 1, 0, none⟩ (97 + p % 4) (97 + p % 4 + s % 30) (by omega) (by omega) (by omega) (by simp) (by simp)).mono ?_
  rintro e w5 ⟨cur, rfl, hrun, b5⟩
  have b5' : Below w3.heap.size w3 w5 := (((Below.refl _ w3).alloc (Nat.le_refl _) _).alloc (by simp) _).trans (b5.mono (by simp; omega))
  have t5 := t3.stepAll b5'
  have s5 := b5'.size
  clear b5
  have hz : ∀ cs, (w5.setRow (w.heap.size + 1) cs).heap[w.heap.size]? = some (.cells #[.int .i64 0, .int .i64 0] 30 (0, 0)) := fun cs => (setRow_other _ _ _ _ (by omega)).trans t5.z
  have hi30 : (Yba.prog.info? 30).map (·.size) = some 2 := by kernel_rfl
  go_wp2_with (first | refine wpList_store_row rfl 35 _ _ rfl _ cur rfl rfl 35 Z35 t5.r (by rw [hrun.size]; exact size35) (by rw [hrun.size]; exact Z35_size) (by rw [Array.all_eq_true_iff_forall_mem]; intro v hv; exact hrun.one v (by simpa using hv)) ?_ | refine wpList_store_row rfl 30 _ _ rfl w.heap.size #[.int .i64 ((n : Int) + 1), .int .i64 ((wl : Int) + x % (256 - wl))] rfl rfl 30 #[.int .i64 0, .int .i64 0] (hz _) hi30 rfl (by simp [Value.oneCell']) ?_)
  generalize hw6 : (w5.setRow (w.heap.size + 1) cur).setRow w.heap.size #[.int .i64 ((n : Int) + 1), .int .i64 ((wl : Int) + x % (256 - wl))] = w6
  have l1 : (loadVar 30 ⟨w.heap.size, 0, none⟩).run Yba.prog w6 = .ok (.agg #[.int .i64 ((n : Int) + 1), .int .i64 ((wl : Int) + x % (256 - wl))]) w6 := by
    rw [← hw6]
    exact run_loadVar_row _ w.heap.size 30 30 _ (0, 0) _ (setRow_heap _ _ _ _ _ _ (hz _)) Yba.underlying30 rfl hi30
  have l2 : (loadVar 35 ⟨w.heap.size + 1, 0, none⟩).run Yba.prog w6 = .ok (.agg cur) w6 := by
    rw [← hw6]
    exact run_loadVar_row _ (w.heap.size + 1) 35 35 cur (0, 0) _ ((setRow_other _ _ _ _ (by omega)).trans (setRow_heap _ _ _ _ _ _ t5.r)) Yba.underlying35 rfl (by rw [hrun.size]; exact size35)
  have b6 : Below w.heap.size w w6 := by
    rw [← hw6]
    exact t5.old.trans ⟨rfl, rfl, rfl, by simp, fun q hq => (setRow_other _ _ _ _ (by omega)).trans (setRow_other _ _ _ _ (by omega))⟩
  have c6 : ∀ k, w.heap.size + 2 ≤ k → w6.heap[k]? = w5.heap[k]? := fun k hk => by
    rw [← hw6]
    exact (setRow_other _ _ _ _ (by omega)).trans (setRow_other _ _ _ _ (by omega))
  have z6 : w6.heap.size = w5.heap.size := by rw [← hw6]; simp
  clear hw6
  have f6 : ∀ k, w.heap.size + 2 ≤ k → k < w3.heap.size → w6.heap[k]? = w3.heap[k]? := fun k h1 h2 => (c6 k h1).trans (b5'.block k h2)
  have g6 : ∀ k, k < w.heap.size → w6.heap[k]? = w3.heap[k]? := fun k h1 => (b6.block k h1).trans (t3.old.block k h1).symm
  refine bodyPost_ret (res11 _ w6 (.slice La Ln Lc) (.slice a3 rn c3) (.slice a2 (n + 1) c2) (.slice Ta Tn Tc) (.int .u8 (97 + p % 4)) (.int .u8 (97 + p % 4 + s % 30)) w.heap.size (w.heap.size + 1) _ cur rfl rfl rfl rfl rfl rfl rfl rfl l1 l2) rfl ⟨La, Ln, Lc, a3, rn, c3, a2, n + 1, c2, Ta, Tn, Tc, cur, (wl : Int) + x % (256 - wl), by simp, hrun, ?_⟩
  have car : ∀ {a : Option Addr} {n c : Nat} {l : List Int}, Has w3 a n c l → (∀ k, blk a = some k → k < w.heap.size ∨ w.heap.size + 2 ≤ k) → Has w6 a n c l := fun h hk =>
    h.carry fun _ k hb hlt => (hk k hb).elim (fun h1 => g6 k h1) (fun h1 => f6 k h1 hlt)
  have hz6 : w3.heap.size ≤ w6.heap.size := by omega
  exact ⟨car L3 (fun k hk => Or.inr (geL k hk)), lN, car R3 (fun k hk => Or.inr (geR k hk)), car A3 (fun k hk => Or.inr (geA k hk)), car T3 (fun k hk => Or.inr (geT k hk)), tN, b6, fun k hk => by have := ltL k hk; omega, fun k hk => by have := ltR k hk; omega, fun k hk => by have := ltA k hk; omega, fun k hk => by have := ltT k hk; omega, wl, HW.out, rfl⟩
end Go.Proofs.Ybulkbdaq
