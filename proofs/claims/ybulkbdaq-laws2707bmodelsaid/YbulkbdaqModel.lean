/-
  THE WALK OF LawS2707BModel.
-/
import Derived.Test.YbulkbdaqAny
namespace Go.Proofs.Ybulkbdaq
open Go.RowKit

theorem Run.isR {w : World} {g : Nat} {lo hi : Int} {cur : Array Value} (r : Run lo hi 63 cur) (hg : w.heap[g]? = some (.cells cur 35 (0, 0))) : IsR w g lo hi :=
  ⟨by rw [cell_of_row _ _ _ _ _ _ hg]; exact r.mn, fun j h1 h2 => by rw [cell_of_row _ _ _ _ _ _ hg]; exact r.prev j h1 h2, fun j h1 => by rw [cell_of_row _ _ _ _ _ _ hg]; exact r.run j h1 h1⟩

set_option maxRecDepth 20000 in
set_option maxHeartbeats 2000000 in
theorem model_core (w : World) (da : Option Addr) (dn dc : Nat) (dl : List Int) (hd : Has w da dn dc dl) (hdn : dn ≤ 1024)
    (hl : Bool) (ba : Option Addr) (bn bc : Nat) (bl : List Int) (hb : Has w ba bn bc bl) (hbd : ∀ x ∈ bl, 0 ≤ x ∧ x ≤ 255)
    (aa : Option Addr) (an ac : Nat) (as_ : List ByteArray) (ha : HasS w aa an as_) (ma : Option Addr) (mn mc : Nat) (ms : List ByteArray) (hm : HasS w ma mn ms)
    (p s x : Int) (hp : 0 ≤ p ∧ p ≤ 255) (hs : 0 ≤ s ∧ s ≤ 255) (hx : 0 ≤ x ∧ x ≤ 255) :
    Calls Yba.prog 5 #[.slice da dn dc, .bool hl, .slice ba bn bc, .slice aa an ac, .slice ma mn mc, .int .u8 p, .int .u8 s, .int .u8 x] w fun e w' => e = .returned (.bool true) ∧ Below w.heap.size w w' := by
  have zv := zv35
  have dmx := hd.max; have dle := hd.le; unfold maxLen at dmx
  go_enter Yba.func5, Yba.ntmps5
  go_wp2_with fail
  refine (setup w hl ba bn bc bl hb hbd aa an ac as_ ha ma mn mc ms hm p s x hp hs hx).mono ?_
  rintro e w1 ⟨La, Ln, Lc, Ra, Rn, Rc, Aa, An, Ac, Ta, Tn, Tc, cur, Mx, rfl, hrun, S⟩
  have hd1 := hd.belowAll S.old
  go_upto_region 4 with (first | refine wpList_store_row rfl 35 _ _ rfl (w1.heap.size + 1) cur rfl rfl 35 Z35 (heap_alloc2_new w1 _ _) (by rw [hrun.size]; exact size35) (by rw [hrun.size]; exact Z35_size) (by rw [Array.all_eq_true_iff_forall_mem]; intro v hv; exact hrun.one v (by simpa using hv)) ?_)
  generalize hw2 : ((w1.alloc (.cells #[.int .i64 An, .int .i64 Mx] 30)).alloc (.cells Z35 35)).setRow (w1.heap.size + 1) cur = w2
  have b2 : Below w1.heap.size w1 w2 := by
    rw [← hw2]
    exact (((Below.refl _ w1).alloc (Nat.le_refl _) _).alloc (by simp) _).trans ⟨rfl, rfl, rfl, by simp, fun q hq => setRow_other _ _ _ _ (by omega)⟩
  have z2 : w2.heap.size = w1.heap.size + 2 := by rw [← hw2]; simp
  have r2 : IsR w2 (w1.heap.size + 1) (97 + p % 4) (97 + p % 4 + s % 30) := hrun.isR (by rw [← hw2]; exact setRow_heap _ _ _ _ _ _ (heap_alloc2_new w1 _ _))
  have y2 : w2.heap[w1.heap.size]? = some (.cells #[.int .i64 An, .int .i64 Mx] 30 (0, 0)) := by
    rw [← hw2, setRow_other _ _ _ _ (by omega)]; exact heap_alloc2_old w1 _ _
  have HZ : Hid (w2.heap.size = w1.heap.size + 2) := z2
  have zle : w1.heap.size + 2 ≤ w2.heap.size := by omega
  have bw2 : Below w.heap.size w w2 := S.old.trans (b2.mono S.old.size)
  have bz2 := bw2.size
  clear hw2 zv z2 hb ha hm
  have hd2 := hd.belowAll bw2
  go_wp2_with (at_builtin; refine wpApp rfl _ _ rfl w2.heap.size _ _ _ _ rfl (Own.empty w2 w2.heap.size) _ _ _ _ rfl hd2 ?_ ?_ ?_)
  · omega
  · exact Nat.le_refl _
  intro a3 c3 w3 g3 q3 k3 _
  have b3 : Below w2.heap.size w2 w3 := (Below.refl _ _).grown q3 (Nat.le_refl _) (fun k e => by cases e)
  have bz3 := b3.size
  have y3 : w3.heap[w1.heap.size]? = some (.cells #[.int .i64 An, .int .i64 Mx] 30 (0, 0)) := (b3.block _ (by omega)).trans y2
  have y30 : w3.cell? ⟨w1.heap.size, 0, none⟩ = some (.int .i64 An) := by rw [cell_of_row _ _ _ _ _ _ y3]; rfl
  have y31 : w3.cell? ⟨w1.heap.size, 1, none⟩ = some (.int .i64 Mx) := by rw [cell_of_row _ _ _ _ _ _ y3]; rfl
  have b23 : Below w1.heap.size w1 w3 := b2.trans (b3.mono (by omega))
  replace g3 : Own w3 w2.heap.size a3 dn c3 dl := by simpa using g3
  try simp only [Nat.zero_add]
  clear q3 k3
  go_wp2_with fail
  have hnone : La = none → Ln = 0 ∧ Lc = 0 := fun e => by have := S.lab.nil e; have := S.lab.le; omega
  refine (pred_any w3 w2.heap.size a3 dn c3 dl g3 bz3 (by omega) hl bl ms as_ La Ln Lc (S.lab.belowAll b23) S.labN (fun k hk => by have := S.ltL k hk; omega) Ra Rn Rc (S.rest.belowAll b23) (fun k hk => by have := S.ltR k hk; omega) An S.apex.len x Mx S.mx (w1.heap.size + 1) _ _ (r2.below b3 (by omega)) (by omega) hnone).mono ?_
  clear hnone
  rintro e w4 ⟨a4, n4, c4, R, rfl, hP, g4, b4⟩
  have bz4 := b4.size
  have y40 : w4.cell? ⟨w1.heap.size, 0, none⟩ = some (.int .i64 An) := (b4.cell (p := ⟨w1.heap.size, 0, none⟩) (by show w1.heap.size < _; omega)).trans y30
  have y41 : w4.cell? ⟨w1.heap.size, 1, none⟩ = some (.int .i64 Mx) := (b4.cell (p := ⟨w1.heap.size, 1, none⟩) (by show w1.heap.size < _; omega)).trans y31
  have b14 : Below w1.heap.size w1 w4 := b23.trans (b4.mono (by omega))
  have bw4 : Below w.heap.size w w4 := bw2.trans ((b3.trans b4).mono (by omega))
  clear g3 y30 y31 y3 y2 b3 b23 r2 b2 bw2 hd2 hd1 hrun b4
  have hd4 := hd.belowAll bw4
  go_wp2_with (at_builtin; refine wpApp rfl _ _ rfl w4.heap.size _ _ _ _ rfl (Own.empty w4 w4.heap.size) _ _ _ _ rfl hd4 ?_ ?_ ?_)
  · omega
  · exact Nat.le_refl _
  intro a5 c5 w5 g5 q5 k5 _
  have b5 : Below w4.heap.size w4 w5 := (Below.refl _ _).grown q5 (Nat.le_refl _) (fun k e => by cases e)
  have bz5 := b5.size
  replace g5 : Own w5 w4.heap.size a5 dn c5 dl := by simpa using g5
  try simp only [Nat.zero_add]
  have y50 : w5.cell? ⟨w1.heap.size, 0, none⟩ = some (.int .i64 An) := (b5.cell (p := ⟨w1.heap.size, 0, none⟩) (by show w1.heap.size < _; omega)).trans y40
  have y51 : w5.cell? ⟨w1.heap.size, 1, none⟩ = some (.int .i64 Mx) := (b5.cell (p := ⟨w1.heap.size, 1, none⟩) (by show w1.heap.size < _; omega)).trans y41
  have b15 : Below w1.heap.size w1 w5 := b14.trans (b5.mono (by omega))
  have bw5 : Below w.heap.size w w5 := bw4.trans (b5.mono (by omega))
  have gotH : Has w5 a4 n4 c4 (dl ++ R) := g4.has.belowAll b5
  have gotB : ∀ k, blk a4 = some k → k < w4.heap.size := fun k hk => (g4.lt k hk).2
  clear q5 k5 y40 y41 b14 bw4 g4 b5 hd4
  have lab5 := S.lab.belowAll b15
  have rest5 := S.rest.belowAll b15
  have apex5 := S.apex.belowAll b15
  have last5 := S.last.belowAll b15
  have lN := S.labN; have tN := S.lastN
  have sL := S.ltL; have sR := S.ltR; have sA := S.ltA; have sT := S.ltT; have smx := S.mx
  clear S b15
  go_upto_block 0 with fail
  have qe := q22
  have qn := q22n
  have R5l := rest5.len
  have L5l := lab5.len
  have kk := midsOf_len hl ms
  have ka : (apexOf as_).length ≤ 64 := by have := blocks_len as_ 3; simp [apexOf] at *; omega
  rw [List.length_append] at R5l
  go_cut [27] from 35 (fun v wx => ∃ a n c, v = .slice a n c ∧ Own wx w4.heap.size a n c (dl ++ R) ∧ Below w4.heap.size w5 wx)
  case first =>
    rcases hP with ⟨rfl, hm0, d, hd, rfl⟩ | ⟨rfl, hm0, rfl⟩ | ⟨rfl, hm0, m, hLs, hml, rfl⟩ | ⟨rfl, hm0, ini, m, hLs, h1, h62, hml, rfl⟩ | ⟨rfl, hm0, ini, m, grow, hLs, h62, hml, hm256, hgr, rfl⟩
    · obtain rfl : La = none := lN.2 rfl
      rw [hm0] at rest5 R5l
      simp only [List.flatten_nil, List.nil_append] at rest5
      have hRn : Rn ≤ 64 := by simp at R5l; omega
      have hMd : Mx = Rn + d := by simp at R5l; omega
      subst hMd
      have hd255 : d ≤ 255 := by
        obtain ⟨wl, hw1, hw2⟩ := smx
        have hw1' : wl = Rn := hw1
        have := Int.emod_lt_of_pos x (b := (256 : Int) - wl) (by omega)
        omega
      have hR4 : ∀ k, blk Ra = some k → k < w4.heap.size := fun k hk => by have := sR k hk; omega
      clear lab5 apex5 last5 tN lN R5l L5l kk gotH smx hd hm0
      go_upto_if 135 with fail
      go_cut [29] from 35 (fun v wx => w5 = wx ∧ ∃ K : Nat, v = .int .i64 K ∧ K ≤ 64 ∧ fillL (min 64 d) (97 + p % 4 + s % 30) = fillL K (97 + p % 4 + s % 30))
      case first =>
        by_cases h64 : 64 < d
        · go_wp2
          go_meet
          case rel => exact ⟨rfl, 64, rfl, by omega, by rw [show min 64 d = 64 from by omega]⟩
        · go_wp2
          go_meet
          case rel => exact ⟨rfl, d, by go_num, by omega, by rw [show min 64 d = d from by omega]⟩
      case rest =>
      obtain ⟨hwx, K, hv, hK64, hfl⟩ := hcut
      subst hwx
      subst hv
      have HF : Hid (fillL (min 64 d) (97 + p % 4 + s % 30) = fillL K (97 + p % 4 + s % 30)) := hfl
      clear hfl y50 y51
      by_cases hK2 : K < 2
      · have HE : Hid (fillL K (97 + p % 4 + s % 30) = []) := fillL_lo K _ hK2
        go_wp2_with (at_builtin; refine wpApp rfl _ _ rfl w4.heap.size _ _ _ _ rfl g5 _ _ _ _ rfl rest5 (by omega) (by omega) ?_)
        intro a6 c6 w6 g6 q6 k6 _
        have b6 : Below w4.heap.size w5 w6 := (Below.refl _ _).grown q6 bz5 (fun k e => (g5.lt k e).1)
        clear q6 k6
        go_wp2
        go_meet
        case rel => exact ⟨_, _, _, rfl, by rw [HF.out, HE.out]; simpa using g6, b6⟩
      · obtain ⟨k, rfl⟩ : ∃ k, K = k + 1 := ⟨K - 1, by omega⟩
        have HE : Hid (fillL (k + 1) (97 + p % 4 + s % 30) = (k : Int) :: List.replicate k (97 + p % 4 + s % 30)) := fillL_hi k _ (by omega)
        go_wp2_with (at_builtin; refine wpApp rfl _ _ rfl w4.heap.size _ _ _ _ rfl (g5.alloc _) _ _ _ _ rfl (hasLit _ _) (by omega) (by simp; omega) ?_)
        intro a6 c6 w6 g6 q6 k6 _
        have b6 : Below w4.heap.size w5 w6 := ((Below.refl _ _).alloc bz5 _).grown q6 (by simp; omega) (fun k e => (g5.lt k e).1)
        have bz6 := b6.size
        clear q6 k6 g5
        go_wp2_with fail
        go_loopw [27, 30] (fun v i wr => ∃ j : Nat, j ≤ k ∧ i = .int .i64 j ∧ ∃ a c, v = .slice a (dn + 1 + j) c ∧ Own wr w4.heap.size a (dn + 1 + j) c (dl ++ ((k : Int) :: List.replicate j (97 + p % 4 + s % 30))) ∧ Below w4.heap.size w5 wr) (fun _ i _ => k - (intOf i).toNat)
        case atStart => exact ⟨0, by omega, rfl, _, _, rfl, by simpa using g6, b6⟩
        case round =>
          obtain ⟨j, hj, rfl, aj, cj, rfl, gj, bj⟩ := hrel
          have bzj := bj.size
          by_cases hlt : j < k
          · go_wp2_with (at_builtin; refine wpApp rfl _ _ rfl w4.heap.size _ _ _ _ rfl (gj.alloc _) _ _ _ _ rfl (hasLit _ _) (by omega) (by simp; omega) ?_)
            intro a7 c7 w7 g7 q7 k7 _
            have b7 : Below w4.heap.size w5 w7 := (bj.alloc (by omega) _).grown q7 (by simp; omega) (fun k e => (gj.lt k e).1)
            clear q7 k7
            go_wp2
            go_roundw
            case rel => exact ⟨j + 1, by omega, by go_num, _, _, rfl, by rw [List.replicate_succ']; show Own w7 w4.heap.size a7 (dn + 1 + j + 1) c7 _; simpa using g7, b7⟩
            case measure => simp [intOf]; omega
          · obtain rfl : j = k := by omega
            go_wp2_with (at_builtin; refine wpApp rfl _ _ rfl w4.heap.size _ _ _ _ rfl gj _ _ _ _ rfl (rest5.below bj (fun _ => hR4)) (by omega) (by omega) ?_)
            intro a7 c7 w7 g7 q7 k7 _
            have b7 : Below w4.heap.size w5 w7 := bj.grown q7 (by omega) (fun k e => (gj.lt k e).1)
            clear q7 k7
            go_wp2
            go_meet
            case rel => exact ⟨_, _, _, rfl, by rw [HF.out, HE.out]; simpa using g7, b7⟩
    · obtain ⟨la, rfl⟩ := Option.ne_none_iff_exists'.1 (show La ≠ none from fun e => Bool.noConfusion (lN.1 e))
      obtain ⟨ta, rfl⟩ := Option.ne_none_iff_exists'.1 (show Ta ≠ none from fun e => hm0 (tN.1 e))
      have T5l := last5.len
      have hT21 : Tn ≤ 21 := by
        rw [← T5l]
        have hmm : midsOf true ms = blocks ms 3 := rfl
        obtain ⟨b, hb1⟩ : ∃ b, (midsOf true ms).getLast? = some b := ⟨_, List.getLast?_eq_some_getLast hm0⟩
        rw [List.getLastD_eq_getLast?, hb1]
        have := List.mem_of_getLast? hb1
        rw [hmm] at this
        obtain ⟨st, _, rfl⟩ := List.mem_map.1 this
        exact (lab_len st).2
      have A5l := apex5.len
      have hT : ∀ k, blk (some ta) = some k → k < w4.heap.size := fun k hk => by have := sT k hk; omega
      have hA : ∀ k, blk Aa = some k → k < w4.heap.size := fun k hk => by have := sA k hk; omega
      clear lab5 rest5 tN lN hm0 R5l L5l kk T5l y50 y51 gotH
      go_wp2_with (at_builtin; refine wpApp rfl _ _ rfl w4.heap.size _ _ _ _ rfl g5 _ _ _ _ rfl last5 (by omega) (by omega) ?_)
      intro a6 c6 w6 g6 q6 k6 _
      have b6 : Below w4.heap.size w5 w6 := (Below.refl _ _).grown q6 bz5 (fun k e => (g5.lt k e).1)
      have bz6 := b6.size
      clear q6 k6
      go_wp2_with (at_builtin; refine wpApp rfl _ _ rfl w4.heap.size _ _ _ _ rfl g6 _ _ _ _ rfl (apex5.below b6 (fun _ => hA)) (by omega) (by omega) ?_)
      intro a7 c7 w7 g7 q7 k7 _
      have b7 : Below w4.heap.size w5 w7 := b6.grown q7 (by omega) (fun k e => (g6.lt k e).1)
      clear q7 k7
      go_wp2
      go_meet
      case rel => exact ⟨_, _, _, rfl, by simpa using g7, b7⟩
    · obtain ⟨la, rfl⟩ := Option.ne_none_iff_exists'.1 (show La ≠ none from fun e => Bool.noConfusion (lN.1 e))
      obtain rfl : Ta = none := tN.2 hm0
      rw [hLs] at lab5 L5l
      rw [hm0] at rest5 R5l
      simp only [List.flatten_nil, List.nil_append] at rest5
      obtain rfl : Ln = 1 := by rw [← L5l]; rfl
      have hle := lab5.le
      obtain ⟨lb, lf, hla, hcell⟩ := lab5.at_ (by omega)
      cases hla
      have hc0 : w5.cell? ⟨lb, lf, none⟩ = some (.int .u8 m) := by simpa using hcell 0 (by omega)
      clear hcell lab5 apex5 last5 tN lN hm0 L5l kk y50 y51 gotH hLs
      have hRn : Rn ≤ 64 := by simp at R5l; omega
      clear R5l
      go_wp2_with (at_builtin; refine wpApp rfl _ _ rfl w4.heap.size _ _ _ _ rfl g5 _ _ _ _ rfl rest5 (by omega) (by omega) ?_)
      intro a6 c6 w6 g6 q6 k6 _
      have b6 : Below w4.heap.size w5 w6 := (Below.refl _ _).grown q6 bz5 (fun k e => (g5.lt k e).1)
      clear q6 k6
      go_wp2
      go_meet
      case rel => exact ⟨_, _, _, rfl, g6, b6⟩
    · obtain ⟨la, rfl⟩ := Option.ne_none_iff_exists'.1 (show La ≠ none from fun e => Bool.noConfusion (lN.1 e))
      obtain rfl : Ta = none := tN.2 hm0
      rw [hLs] at lab5 L5l
      rw [hm0] at rest5 R5l
      simp only [List.flatten_nil, List.nil_append] at rest5
      have hLn' : Ln = ini.length + 1 := by rw [← L5l]; simp
      generalize hk : ini.length = k at h1 h62 hLn' ⊢
      subst hLn'
      have hfr := lab5.front k hk
      have hle := lab5.le; have hlx := lab5.max
      unfold maxLen at hlx
      obtain ⟨lb, lf, hla, hcell⟩ := lab5.at_ (by omega)
      cases hla
      have hc0 : w5.cell? ⟨lb, lf + k, none⟩ = some (.int .u8 m) := by
        have := hcell k (by omega)
        rw [this]; simp [List.getD, ← hk]
      have hL4 : ∀ j, blk (some (⟨lb, lf, none⟩ : Addr)) = some j → j < w4.heap.size := fun j hj => by have := sL j hj; omega
      have hR4 : ∀ k, blk Ra = some k → k < w4.heap.size := fun k hk => by have := sR k hk; omega
      have hRn : Rn ≤ 64 := by simp at R5l; omega
      have hg1 : (((k : Int) + 1) == 1) = false := by simp; omega
      have HK : Hid (ini.length = k) := hk
      clear hcell lab5 apex5 last5 tN lN hm0 L5l kk y50 y51 gotH hLs R5l hk
      go_wp2_with (at_builtin; refine wpApp rfl _ _ rfl w4.heap.size _ _ _ _ rfl (g5.alloc _) _ _ _ _ rfl (hasLit _ _) (by omega) (by simp; omega) ?_)
      intro a6 c6 w6 g6 q6 k6 _
      have b6 : Below w4.heap.size w5 w6 := ((Below.refl _ _).alloc bz5 _).grown q6 (by simp; omega) (fun k e => (g5.lt k e).1)
      have bz6 := b6.size
      clear q6 k6 g5
      go_wp2_with (at_builtin; refine wpApp rfl _ _ rfl w4.heap.size _ _ _ _ rfl g6 _ _ _ _ rfl (hfr.below b6 (fun _ => hL4)) (by omega) (by omega) ?_)
      intro a7 c7 w7 g7 q7 k7 _
      have b7 : Below w4.heap.size w5 w7 := b6.grown q7 (by omega) (fun k e => (g6.lt k e).1)
      have bz7 := b7.size
      clear q7 k7 g6
      go_wp2_with (at_builtin; refine wpApp rfl _ _ rfl w4.heap.size _ _ _ _ rfl g7 _ _ _ _ rfl (rest5.below b7 (fun _ => hR4)) (by omega) (by omega) ?_)
      intro a8 c8 w8 g8 q8 k8 _
      have b8 : Below w4.heap.size w5 w8 := b7.grown q8 (by omega) (fun k e => (g7.lt k e).1)
      clear q8 k8 g7
      go_wp2
      go_meet
      case rel => exact ⟨_, _, _, rfl, by rw [HK.out]; simpa using g8, b8⟩
    · obtain ⟨la, rfl⟩ := Option.ne_none_iff_exists'.1 (show La ≠ none from fun e => Bool.noConfusion (lN.1 e))
      obtain rfl : Ta = none := tN.2 hm0
      rw [hLs] at lab5 L5l
      rw [hm0] at rest5 R5l
      simp only [List.flatten_nil, List.nil_append] at rest5
      have hLn' : Ln = ini.length + 1 := by rw [← L5l]; simp
      have hAR : (apexOf as_).length = Rn := by simpa using R5l
      rw [hAR] at hgr
      generalize hk : ini.length = k at h62 hLn' hgr ⊢
      subst hLn'
      have hfr := lab5.front k hk
      have hle := lab5.le; have hlx := lab5.max
      unfold maxLen at hlx
      obtain ⟨lb, lf, hla, hcell⟩ := lab5.at_ (by omega)
      cases hla
      have hc0 : w5.cell? ⟨lb, lf + k, none⟩ = some (.int .u8 m) := by
        have := hcell k (by omega)
        rw [this]; simp [List.getD, ← hk]
      have hL4 : ∀ j, blk (some (⟨lb, lf, none⟩ : Addr)) = some j → j < w4.heap.size := fun j hj => by have := sL j hj; omega
      have hR4 : ∀ k, blk Ra = some k → k < w4.heap.size := fun k hk => by have := sR k hk; omega
      have hRn : Rn ≤ 64 := by omega
      have hmd : decide ((m : Int) ≤ 97 + p % 4) = false := by simp; omega
      have hM0 : 0 ≤ Mx ∧ Mx ≤ 255 := by
        obtain ⟨wl, hw1, hw2⟩ := smx
        have hw1' : wl = 1 + (k + 1) + Rn := hw1
        have e1 := Int.emod_lt_of_pos x (b := (256 : Int) - wl) (by omega)
        have e2 := Int.emod_nonneg x (b := (256 : Int) - wl) (by omega)
        omega
      obtain ⟨hM0, hM1⟩ := hM0
      have HK : Hid (ini.length = k) := hk
      have HG : Hid ((grow : Int) = min (63 - ((k + 1 : Nat) : Int)) (Mx - (1 + ((k + 1 : Nat) : Int) + Rn))) := hgr
      have hgl : k + 1 + grow ≤ 63 := by omega
      clear hcell lab5 apex5 last5 tN lN hm0 L5l kk gotH hLs R5l hk hgr smx hAR
      go_upto_region 37 with fail
      go_cut [166] from 35 (fun v wx => w5 = wx ∧ v = .bool false)
      case first =>
        by_cases hk0 : k = 0
        · subst hk0
          have hc00 : w5.cell? ⟨lb, lf, none⟩ = some (.int .u8 m) := hc0
          go_wp2
          go_meet
          case rel => exact ⟨rfl, rfl⟩
        · have hg1 : (((k : Int) + 1) == 1) = false := by simp; omega
          go_wp2
          go_meet
          case rel => exact ⟨rfl, rfl⟩
      case rest =>
      obtain ⟨hwx, hv⟩ := hcut
      subst hwx
      subst hv
      go_upto_if 78 with fail
      go_cut [32] from 35 (fun v wx => w5 = wx ∧ v = .int .i64 grow)
      case first =>
        by_cases hc : Mx - (1 + ((k : Int) + 1) + Rn) < 63 - ((k : Int) + 1)
        · go_wp2
          go_meet
          case rel => exact ⟨rfl, by have := HG.out; go_num⟩
        · go_wp2
          go_meet
          case rel => exact ⟨rfl, by have := HG.out; go_num⟩
      case rest =>
      obtain ⟨hwx, hv⟩ := hcut
      subst hwx
      subst hv
      go_upto_if 90 with fail
      go_cut [33] from 35 (fun v wx => w5 = wx ∧ v = .int .u8 (bel (97 + p % 4) (97 + p % 4 + s % 30) m))
      case first =>
        by_cases hc : (m : Int) ≤ 97 + p % 4 + s % 30
        · have HB : Hid (bel (97 + p % 4) (97 + p % 4 + s % 30) m = (m : Int) - 1) := bel_mid hml (by omega)
          go_wp2
          go_meet
          case rel => exact ⟨rfl, by rw [HB.out]⟩
        · have HB : Hid (bel (97 + p % 4) (97 + p % 4 + s % 30) m = 97 + p % 4 + s % 30) := by
            show bel (97 + p % 4) (97 + p % 4 + s % 30) m = 97 + p % 4 + s % 30
            by_cases e : (m : Int) = 97 + p % 4 + s % 30 + 1
            · rw [bel_mid hml (by omega)]; omega
            · exact bel_hi (by omega) (by omega)
          go_wp2
          go_meet
          case rel => exact ⟨rfl, by rw [HB.out]⟩
      case rest =>
      obtain ⟨hwx, hv⟩ := hcut
      subst hwx
      subst hv
      clear y50 y51 hc0 hmd
      go_wp2_with (at_builtin; refine wpApp rfl _ _ rfl w4.heap.size _ _ _ _ rfl (g5.alloc _) _ _ _ _ rfl (hasLit _ _) (by omega) (by simp; omega) ?_)
      intro a6 c6 w6 g6 q6 k6 _
      have b6 : Below w4.heap.size w5 w6 := ((Below.refl _ _).alloc bz5 _).grown q6 (by simp; omega) (fun k e => (g5.lt k e).1)
      have bz6 := b6.size
      clear q6 k6 g5
      go_wp2_with (at_builtin; refine wpApp rfl _ _ rfl w4.heap.size _ _ _ _ rfl g6 _ _ _ _ rfl (hfr.below b6 (fun _ => hL4)) (by omega) (by omega) ?_)
      intro a7 c7 w7 g7 q7 k7 _
      have b7 : Below w4.heap.size w5 w7 := b6.grown q7 (by omega) (fun k e => (g6.lt k e).1)
      have bz7 := b7.size
      clear q7 k7 g6
      go_wp2_with (at_builtin; refine wpApp rfl _ _ rfl w4.heap.size _ _ _ _ rfl (g7.alloc _) _ _ _ _ rfl (hasLit _ _) (by omega) (by simp; omega) ?_)
      intro a8 c8 w8 g8 q8 k8 _
      have b8 : Below w4.heap.size w5 w8 := (b7.alloc (by omega) _).grown q8 (by simp; omega) (fun k e => (g7.lt k e).1)
      have bz8 := b8.size
      clear q8 k8 g7
      go_wp2_with fail
      go_loopw [27, 34] (fun v i wr => ∃ j : Nat, j ≤ grow ∧ i = .int .i64 j ∧ ∃ a c, v = .slice a (dn + 1 + k + 1 + j) c ∧ Own wr w4.heap.size a (dn + 1 + k + 1 + j) c (dl ++ ((k + 1 + grow : Int) :: (ini ++ (bel (97 + p % 4) (97 + p % 4 + s % 30) m :: List.replicate j (97 + p % 4 + s % 30))))) ∧ Below w4.heap.size w5 wr) (fun _ i _ => grow - (intOf i).toNat)
      case atStart => exact ⟨0, by omega, rfl, _, _, rfl, by simpa using g8, b8⟩
      case round =>
        obtain ⟨j, hj, rfl, aj, cj, rfl, gj, bj⟩ := hrel
        have bzj := bj.size
        by_cases hlt : j < grow
        · go_wp2_with (at_builtin; refine wpApp rfl _ _ rfl w4.heap.size _ _ _ _ rfl (gj.alloc _) _ _ _ _ rfl (hasLit _ _) (by omega) (by simp; omega) ?_)
          intro a9 c9 w9 g9 q9 k9 _
          have b9 : Below w4.heap.size w5 w9 := (bj.alloc (by omega) _).grown q9 (by simp; omega) (fun k e => (gj.lt k e).1)
          clear q9 k9
          go_wp2
          go_roundw
          case rel => exact ⟨j + 1, by omega, by go_num, _, _, rfl, by rw [List.replicate_succ']; show Own w9 w4.heap.size a9 (dn + 1 + k + 1 + j + 1) c9 _; simpa using g9, b9⟩
          case measure => simp [intOf]; omega
        · obtain rfl : j = grow := by omega
          go_wp2_with (at_builtin; refine wpApp rfl _ _ rfl w4.heap.size _ _ _ _ rfl gj _ _ _ _ rfl (rest5.below bj (fun _ => hR4)) (by omega) (by omega) ?_)
          intro a9 c9 w9 g9 q9 k9 _
          have b9 : Below w4.heap.size w5 w9 := bj.grown q9 (by omega) (fun k e => (gj.lt k e).1)
          clear q9 k9
          go_wp2
          go_meet
          case rel => exact ⟨_, _, _, rfl, by rw [HK.out]; simpa using g9, b9⟩
  case rest =>
  obtain ⟨a6, n6, c6, hv, g6, b6⟩ := hcut
  subst hv
  have got6 : Has wc a4 n4 c4 (dl ++ R) := gotH.below b6 (fun _ => gotB)
  have bw6 : Below w.heap.size w wc := bw5.trans (b6.mono (by omega))
  clear lab5 rest5 apex5 last5 tN lN hP R5l L5l kk y50 y51 gotH
  go_wp2_with fail
  refine (equal_same wc a4 a6 n4 c4 n6 c6 (dl ++ R) got6 g6.has).mono ?_
  rintro e w' ⟨rfl, rfl⟩
  go_wp2
  go_ret
  exact ⟨rfl, bw6⟩
end Go.Proofs.Ybulkbdaq
