/-
  THE WALK OF LawS2707BShape.
-/
import Derived.Test.YbulkbdaqAny
namespace Go.Proofs.Ybulkbdaq
open Go.RowKit

/-- A block of 1 to 63 octets. -/
def Blk63 (b : List Int) : Prop := ∃ body : List Int, b = (body.length : Int) :: body ∧ 1 ≤ body.length ∧ body.length ≤ 63

theorem Blk63.blk {b : List Int} (h : Blk63 b) : Blk b := by
  obtain ⟨body, h1, _, h3⟩ := h
  exact ⟨body, h1, by omega⟩
theorem blocks_63 (ss : List ByteArray) (k : Nat) : ∀ b ∈ blocks ss k, Blk63 b := by
  intro b hb
  obtain ⟨s, _, rfl⟩ := List.mem_map.1 hb
  have := labB_len s
  exact ⟨labB s, rfl, this.1, by omega⟩

/-- The result is a well-formed name that ends in the apex, within the bound. -/
theorem shape (hl : Bool) (bl : List Int) (ms as_ : List ByteArray) (lo hi M : Int) (R : List Int) (Ln Rn : Nat) (hLn : (labelOf hl bl).length = Ln) (hRn : ((midsOf hl ms).flatten ++ apexOf as_).length = Rn) (x : Int)
    (hM : ∃ wl : Nat, wl = (if hl then 1 + Ln + Rn else Rn) ∧ M = wl + x % (256 - wl)) (h : PredIs hl (labelOf hl bl) (midsOf hl ms) (apexOf as_) lo hi M R) :
    (∃ bs : List (List Int), R = bs.flatten ++ [0] ∧ (∀ b ∈ bs, Blk63 b)) ∧ (R.length : Int) ≤ M ∧ ∃ pre, R = pre ++ apexOf as_ := by
  have k1 := midsOf_len hl ms
  have k2 : (apexOf as_).length ≤ 64 := by have := blocks_len as_ 3; simp [apexOf] at *; omega
  have k3 := labelOf_len hl bl
  rw [List.length_append] at hRn
  obtain ⟨wl, hw, hM⟩ := hM
  have e2 := Int.emod_nonneg x (b := (256 : Int) - wl) (by rw [hw]; split <;> omega)
  have one : ∀ b, Blk63 b → ∃ bs : List (List Int), b ++ apexOf as_ = bs.flatten ++ [0] ∧ (∀ b ∈ bs, Blk63 b) := fun b hb =>
    ⟨b :: blocks as_ 3, by simp [apexOf], fun y hy => by
      rcases List.mem_cons.1 hy with rfl | hy
      · exact hb
      · exact blocks_63 as_ 3 y hy⟩
  have nil : ∃ bs : List (List Int), apexOf as_ = bs.flatten ++ [0] ∧ (∀ b ∈ bs, Blk63 b) := ⟨blocks as_ 3, rfl, blocks_63 as_ 3⟩
  rcases h with ⟨rfl, hm0, d, hd, rfl⟩ | ⟨rfl, hm0, rfl⟩ | ⟨rfl, hm0, m, hLs, hml, rfl⟩ | ⟨rfl, hm0, ini, m, hLs, h1, h62, hml, rfl⟩ | ⟨rfl, hm0, ini, m, grow, hLs, h62, hml, hm256, hgr, rfl⟩
  · by_cases h2 : min 64 d < 2
    · rw [fillL_lo _ _ h2]
      refine ⟨nil, ?_, [], rfl⟩
      simp; omega
    · obtain ⟨k, hk⟩ : ∃ k, min 64 d = k + 1 := ⟨min 64 d - 1, by omega⟩
      rw [hk, fillL_hi _ _ (by omega)]
      refine ⟨one _ ⟨List.replicate k hi, by simp, by simp; omega, by simp; omega⟩, ?_, _, rfl⟩
      simp; omega
  · have hw' : wl = 1 + Ln + Rn := hw
    obtain ⟨b, hb1⟩ : ∃ b, (midsOf true ms).getLast? = some b := ⟨_, List.getLast?_eq_some_getLast hm0⟩
    have hbe : (midsOf true ms).getLastD [] = b := by rw [List.getLastD_eq_getLast?, hb1]; rfl
    have hbm : b ∈ midsOf true ms := List.mem_of_getLast? hb1
    have hble : b.length ≤ (midsOf true ms).flatten.length := by
      obtain ⟨s, t, hst⟩ := List.append_of_mem hbm
      rw [hst]; simp; omega
    rw [hbe]
    refine ⟨one _ (blocks_63 ms 3 b hbm), ?_, _, rfl⟩
    rw [List.length_append]; omega
  · have hw' : wl = 1 + Ln + Rn := hw
    refine ⟨nil, ?_, [], rfl⟩
    omega
  · have hw' : wl = 1 + Ln + Rn := hw
    rw [hLs] at hLn
    have e3 : ini.length + 1 = Ln := by simpa using hLn
    refine ⟨?_, ?_, (ini.length : Int) :: ini, rfl⟩
    · have := one ((ini.length : Int) :: ini) ⟨ini, rfl, by omega, by omega⟩
      simpa using this
    · simp; omega
  · have hw' : wl = 1 + Ln + Rn := hw
    rw [hLs] at hLn
    have e3 : ini.length + 1 = Ln := by simpa using hLn
    refine ⟨?_, ?_, ((ini.length + 1 + grow : Nat) : Int) :: (ini ++ (bel lo hi m :: List.replicate grow hi)), by simp⟩
    · have := one (((ini.length + 1 + grow : Nat) : Int) :: (ini ++ (bel lo hi m :: List.replicate grow hi))) ⟨ini ++ (bel lo hi m :: List.replicate grow hi), by simp; omega, by simp; omega, by simp; omega⟩
      simpa using this
    · simp; omega

set_option maxHeartbeats 400000 in
/-- bytes.HasSuffix where the first ends in the second, which is not empty. -/
theorem suffix_true (w : World) (a1 a2 : Option Addr) (n1 c1 n2 c2 : Nat) (pre ys : List Int) (h1 : Has w a1 n1 c1 (pre ++ ys)) (h2 : Has w a2 n2 c2 ys) (hne : 0 < n2) :
    Calls Yba.prog 13 #[.slice a1 n1 c1, .slice a2 n2 c2] w fun e w' => e = .returned (.bool true) ∧ w' = w := by
  have l1 := h1.len; have l2 := h2.len; have e1 := h1.le; have e2 := h2.le; have m1 := h1.max; have m2 := h2.max
  unfold maxLen at m1 m2
  rw [List.length_append, l2] at l1
  have hcut := h1.cut pre.length n1 (by omega) (by omega)
  obtain ⟨b, o, rfl, _⟩ := h1.at_ (by omega)
  have hc : Has w (some ⟨b, o + pre.length, none⟩) n2 (c1 - pre.length) ys := by
    rw [List.take_of_length_le (by have := h1.len; omega), show n1 - pre.length = n2 from by omega, List.drop_left] at hcut
    unfold adr at hcut
    rw [if_neg (by omega)] at hcut
    simpa [Addr.add_lit] using hcut
  clear hcut h1 l2
  obtain ⟨q, hq⟩ : ∃ q, pre.length = q := ⟨_, rfl⟩
  rw [hq] at hc l1
  clear hq
  subst l1
  go_enter Yba.func13, Yba.ntmps13
  go_wp2_with fail
  refine (equal_same _ _ _ _ _ _ _ ys hc h2).mono ?_
  rintro e w' ⟨rfl, rfl⟩
  go_wp2
  go_ret
  exact ⟨rfl, rfl⟩

theorem Run.isR {w : World} {g : Nat} {lo hi : Int} {cur : Array Value} (r : Run lo hi 63 cur) (hg : w.heap[g]? = some (.cells cur 35 (0, 0))) : IsR w g lo hi :=
  ⟨by rw [cell_of_row _ _ _ _ _ _ hg]; exact r.mn, fun j h1 h2 => by rw [cell_of_row _ _ _ _ _ _ hg]; exact r.prev j h1 h2, fun j h1 => by rw [cell_of_row _ _ _ _ _ _ hg]; exact r.run j h1 h1⟩


theorem zero_at (bs : List (List Int)) : (bs.flatten ++ [0]).getD (off bs bs.length) 0 = (0 : Int) := by
  rw [off_all]; simp [List.getD]

set_option maxRecDepth 20000 in
set_option maxHeartbeats 2000000 in
theorem shape_core (w : World) (da : Option Addr) (dn dc : Nat) (dl : List Int) (hd : Has w da dn dc dl) (hdn : dn ≤ 1024)
    (hl : Bool) (ba : Option Addr) (bn bc : Nat) (bl : List Int) (hb : Has w ba bn bc bl) (hbd : ∀ x ∈ bl, 0 ≤ x ∧ x ≤ 255)
    (aa : Option Addr) (an ac : Nat) (as_ : List ByteArray) (ha : HasS w aa an as_) (ma : Option Addr) (mn mc : Nat) (ms : List ByteArray) (hm : HasS w ma mn ms)
    (p s x : Int) (hp : 0 ≤ p ∧ p ≤ 255) (hs : 0 ≤ s ∧ s ≤ 255) (hx : 0 ≤ x ∧ x ≤ 255) :
    Calls Yba.prog 6 #[.slice da dn dc, .bool hl, .slice ba bn bc, .slice aa an ac, .slice ma mn mc, .int .u8 p, .int .u8 s, .int .u8 x] w fun e w' => e = .returned (.bool true) ∧ Below w.heap.size w w' := by
  have zv := zv35
  have dmx := hd.max; have dle := hd.le; unfold maxLen at dmx
  go_enter Yba.func6, Yba.ntmps6
  go_wp2_with fail
  refine (setup w hl ba bn bc bl hb hbd aa an ac as_ ha ma mn mc ms hm p s x hp hs hx).mono ?_
  rintro e w1 ⟨La, Ln, Lc, Ra, Rn, Rc, Aa, An, Ac, Ta, Tn, Tc, cur, Mx, rfl, hrun, S⟩
  have hd1 := hd.belowAll S.old
  go_upto_region 4 with (first | refine wpList_store_row rfl 35 _ _ rfl (w1.heap.size + 1) cur rfl rfl 35 Z35 (heap_alloc2_new w1 _ _) (by rw [hrun.size]; exact size35) (by rw [hrun.size]; exact Z35_size) (by rw [Array.all_eq_true_iff_forall_mem]; intro v hv; exact hrun.one v (by simpa using hv)) ?_)
  generalize hw2 : ((w1.alloc (.cells #[.int .i64 An, .int .i64 Mx] 30)).alloc (.cells Z35 35)).setRow (w1.heap.size + 1) cur = w2
  have b2 : Below w1.heap.size w1 w2 := by
    rw [← hw2]
    exact (((Below.refl _ w1).alloc (Nat.le_refl _) _).alloc (by simp) _).trans ⟨rfl, rfl, rfl, by simp, fun q hq => setRow_other _ _ _ _ (by omega)⟩
  have z2 : w2.heap.size = w1.heap.size + 2 := by rw [← hw2]; simp
  have r2 : IsR w2 (w1.heap.size + 1) (97 + p % 4) (97 + p % 4 + s % 30) := hrun.isR (by rw [← hw2]; exact setRow_heap _ _ _ _ _ _ (heap_alloc2_new w1 _ _))
  have y2 : w2.heap[w1.heap.size]? = some (.cells #[.int .i64 An, .int .i64 Mx] 30 (0, 0)) := by
    rw [← hw2, setRow_other _ _ _ _ (by omega)]; exact heap_alloc2_old w1 _ _
  have HZ : Hid (w2.heap.size = w1.heap.size + 2) := z2
  have zle : w1.heap.size + 2 ≤ w2.heap.size := by omega
  have bw2 : Below w.heap.size w w2 := S.old.trans (b2.mono S.old.size)
  have bz2 := bw2.size
  clear hw2 zv z2 hb ha hm
  have hd2 := hd.belowAll bw2
  go_wp2_with (at_builtin; refine wpApp rfl _ _ rfl w2.heap.size _ _ _ _ rfl (Own.empty w2 w2.heap.size) _ _ _ _ rfl hd2 ?_ ?_ ?_)
  · omega
  · exact Nat.le_refl _
  intro a3 c3 w3 g3 q3 k3 _
  have b3 : Below w2.heap.size w2 w3 := (Below.refl _ _).grown q3 (Nat.le_refl _) (fun k e => by cases e)
  have bz3 := b3.size
  have y3 : w3.heap[w1.heap.size]? = some (.cells #[.int .i64 An, .int .i64 Mx] 30 (0, 0)) := (b3.block _ (by omega)).trans y2
  have y30 : w3.cell? ⟨w1.heap.size, 0, none⟩ = some (.int .i64 An) := by rw [cell_of_row _ _ _ _ _ _ y3]; rfl
  have y31 : w3.cell? ⟨w1.heap.size, 1, none⟩ = some (.int .i64 Mx) := by rw [cell_of_row _ _ _ _ _ _ y3]; rfl
  have b23 : Below w1.heap.size w1 w3 := b2.trans (b3.mono (by omega))
  replace g3 : Own w3 w2.heap.size a3 dn c3 dl := by simpa using g3
  try simp only [Nat.zero_add]
  clear q3 k3
  go_wp2_with fail
  have hnone : La = none → Ln = 0 ∧ Lc = 0 := fun e => by have := S.lab.nil e; have := S.lab.le; omega
  refine (pred_any w3 w2.heap.size a3 dn c3 dl g3 bz3 (by omega) hl bl ms as_ La Ln Lc (S.lab.belowAll b23) S.labN (fun k hk => by have := S.ltL k hk; omega) Ra Rn Rc (S.rest.belowAll b23) (fun k hk => by have := S.ltR k hk; omega) An S.apex.len x Mx S.mx (w1.heap.size + 1) _ _ (r2.below b3 (by omega)) (by omega) hnone).mono ?_
  clear hnone
  rintro e w4 ⟨a4, n4, c4, R, rfl, hP, g4, b4⟩
  have bz4 := b4.size
  have y40 : w4.cell? ⟨w1.heap.size, 0, none⟩ = some (.int .i64 An) := (b4.cell (p := ⟨w1.heap.size, 0, none⟩) (by show w1.heap.size < _; omega)).trans y30
  have y41 : w4.cell? ⟨w1.heap.size, 1, none⟩ = some (.int .i64 Mx) := (b4.cell (p := ⟨w1.heap.size, 1, none⟩) (by show w1.heap.size < _; omega)).trans y31
  have b14 : Below w1.heap.size w1 w4 := b23.trans (b4.mono (by omega))
  have bw4 : Below w.heap.size w w4 := bw2.trans ((b3.trans b4).mono (by omega))
  clear g3 y30 y31 y3 y2 b3 b23 r2 b2 bw2 hd2 hd1 hrun b4
  have hd4 := hd.belowAll bw4
  have apex4 := S.apex.belowAll b14
  have A4l := S.apex.len
  obtain ⟨⟨bs, hRb, hbs⟩, hRM, pr, hpr⟩ := shape hl bl ms as_ _ _ Mx R Ln Rn S.lab.len S.rest.len x S.mx hP
  have gh := g4.has
  have g4l := g4.len
  have hle := gh.le; have hmx := gh.max
  unfold maxLen at hmx
  have hAn : 1 ≤ An := by rw [← A4l]; simp [apexOf]
  have hRl : R.length = off bs bs.length + 1 := by rw [hRb, off_all]; simp
  have hRA : An ≤ R.length := by rw [hpr, List.length_append, A4l]; omega
  rw [List.length_append, hd.len] at g4l
  generalize hrn : R.length = rn at g4l hRl hRA hRM
  subst g4l
  have hR900 : rn ≤ 255 := by
    obtain ⟨wl, hw1, hw2⟩ := S.mx
    have k1 := midsOf_len hl ms
    have k2 : (apexOf as_).length ≤ 64 := by have := blocks_len as_ 3; simp [apexOf] at *; omega
    have k3 := (labelOf_len hl bl).1
    have k4 := S.lab.len
    have k5 := S.rest.len
    rw [List.length_append] at k5
    have hwl2 : wl ≤ 191 := by rw [hw1]; split <;> omega
    have e1 := Int.emod_lt_of_pos x (b := (256 : Int) - wl) (by omega)
    omega
  have hfr := gh.front dn hd.len
  have hcut := gh.cut dn (dn + rn) (by omega) (Nat.le_refl _)
  obtain ⟨gb, go, hga, _⟩ := gh.at_ (by omega)
  subst hga
  have hname : Has w4 (some ⟨gb, go + dn, none⟩) rn (c4 - dn) R := by
    rw [List.take_of_length_le (by rw [List.length_append, hd.len]; omega), show dn + rn - dn = rn from by omega] at hcut
    have e : List.drop dn (dl ++ R) = R := by rw [← hd.len]; simp
    rw [e] at hcut
    unfold adr at hcut
    rw [if_neg (by omega)] at hcut
    simpa [Addr.add_lit] using hcut
  have HRL : Hid (rn = off bs bs.length + 1) := hRl
  clear hcut g4 gh S hrn hP hRl
  go_wp2_with fail
  refine (equal_same w4 _ _ _ _ _ _ dl hfr hd4).mono ?_
  rintro e w' ⟨rfl, hw'⟩
  have hw2' := hw'.symm
  subst hw2'
  clear hw'
  have hq : ¬ (Mx < rn) := by omega
  go_wp2_with fail
  have hnameA := hname
  rw [hpr] at hnameA
  refine (suffix_true w4 _ _ _ _ _ _ pr _ hnameA apex4 (by omega)).mono ?_
  rintro e w' ⟨rfl, hw'⟩
  have hw2' := hw'.symm
  subst hw2'
  have hcell : ∀ i, i < rn → w4.cell? ⟨gb, go + dn + i, none⟩ = some (.int .u8 ((bs.flatten ++ [0]).getD i 0)) := by
    obtain ⟨b', o', he, hc'⟩ := hname.at_ (by omega)
    cases he
    rw [← hRb]
    exact hc'
  clear hw' hname hnameA hpr hRb apex4 hfr hd4 y40 y41 hq A4l
  have hbs' : ∀ b ∈ bs, Blk b := fun b hb => (hbs b hb).blk
  go_wp2_with fail
  go_loop [28] (fun i => ∃ j : Nat, j ≤ bs.length ∧ i = .int .i64 (off bs j)) (fun i => rn - (intOf i).toNat)
  case atStart => exact ⟨0, by omega, by rw [off_zero]; rfl⟩
  case round =>
    obtain ⟨j, hj, rfl⟩ := hrel
    have oa := off_all bs
    have oj := off_le bs j
    have hro := HRL.out
    by_cases hlt : j < bs.length
    · have gj := get_off bs [0] j hlt hbs'
      have sj := off_succ bs j hlt
      have lj := off_le bs (j + 1)
      obtain ⟨body, hb1, hb2, hb3⟩ := hbs _ (List.getElem_mem hlt)
      have hbl : (bs[j]).length = body.length + 1 := by rw [hb1]; simp
      have hcj : w4.cell? ⟨gb, go + dn + off bs j, none⟩ = some (.int .u8 (body.length : Int)) := by
        rw [hcell (off bs j) (by omega), gj.1, hbl]; congr 2; omega
      have hjlt : off bs j < rn := by omega
      have hs : off bs (j + 1) = off bs j + (body.length + 1) := by omega
      have HS : Hid (off bs (j + 1) = off bs j + (body.length + 1)) := hs
      have hbn : ((body.length : Int) == 0) = false := by rw [beq_eq_false_iff_ne]; omega
      clear gj sj hbl hs hb1 oa hro hcell
      go_wp2
      go_round
      case rel => exact ⟨j + 1, by omega, by have := HS.out; go_num⟩
      case measure => have := HS.out; simp [intOf]; omega
    · obtain rfl : j = bs.length := by omega
      have hc0 : w4.cell? ⟨gb, go + dn + off bs bs.length, none⟩ = some (.int .u8 0) := by
        rw [hcell (off bs bs.length) (by omega), zero_at]
      have hjlt : off bs bs.length < rn := by omega
      have hfin : ((off bs bs.length : Int) == (rn : Int) - 1) = true := by simp; omega
      clear oa hro hcell
      go_wp2
      go_ret
      exact ⟨rfl, bw4⟩
end Go.Proofs.Ybulkbdaq
