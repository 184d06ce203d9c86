/-
  appendModifiedPredecessor BY ITS CONTRACTS, a case of the text each.
-/
import Derived.Test.YbulkbdaqDec
namespace Go.Proofs.Ybulkbdaq
open Go.RowKit

theorem hasLit' (w : World) (x : Int) (H : Nat) (hH : w.heap.size = H) : Has (w.alloc (.cells #[.int .u8 x] 5)) (some ⟨H, 0, none⟩) 1 1 [x] := by
  subst hH; exact hasLit w x

theorem Own.belowAll {w w' : World} {B n c : Nat} {a : Option Addr} {xs : List Int} (h : Own w B a n c xs) (hb : Below w.heap.size w w') : Own w' B a n c xs :=
  h.carry fun k _ hk => hb.block k hk

theorem room_nil' (w : World) (A : Int) (n c : Nat) (a2 : Option Addr) (n2 c2 d : Nat) (hn2 : n2 ≤ 1048576) (hd : d ≤ 1048576) (M : Int) (hM : M = n2 + d) (hM2 : M ≤ 1048576) :
    Calls Yba.prog 19 #[.agg #[.int .i64 A, .int .i64 M], .slice none n c, .slice a2 n2 c2] w fun e w' => e = .returned (.int .i64 d) ∧ Below w.heap.size w w' := by
  refine (room_nil w A M n c a2 n2 c2 hn2 (by omega) hM2).mono ?_
  rintro e w' ⟨rfl, hb⟩
  exact ⟨by congr 2; omega, hb⟩
theorem growth' (w : World) (A M : Int) (a : Addr) (n c : Nat) (a2 : Option Addr) (n2 c2 : Nat) (hn : n ≤ 63) (hn2 : n2 ≤ 1048576) (hM : 0 ≤ M) (hM2 : M ≤ 1048576) (grow : Nat) (hg : (grow : Int) = min (63 - (n : Int)) (M - (1 + n + n2))) :
    Calls Yba.prog 22 #[.agg #[.int .i64 A, .int .i64 M], .slice (some a) n c, .slice a2 n2 c2] w fun e w' => e = .returned (.int .i64 grow) ∧ Below w.heap.size w w' := by
  refine (growth_some w A M a n c a2 n2 c2 hn hn2 hM hM2).mono ?_
  rintro e w' ⟨rfl, hb⟩
  exact ⟨by rw [hg], hb⟩

set_option maxRecDepth 20000 in
set_option maxHeartbeats 1000000 in
/-- The apex: the label is nil. -/
theorem pred_nil (w : World) (B : Nat) (a : Option Addr) (n c : Nat) (xs : List Int) (ho : Own w B a n c xs) (hB : B ≤ w.heap.size) (hn : n ≤ 65536)
    (ra : Option Addr) (rn rc : Nat) (R : List Int) (hr : Has w ra rn rc R) (hrB : 0 < rc → ∀ b, blk ra = some b → b < B) (hrn : rn ≤ 255)
    (A M : Int) (d : Nat) (hd : M = rn + d) (hM2 : M ≤ 255)
    (g : Nat) (lo hi : Int) (r : IsR w g lo hi) (hg : g < B) :
    Calls Yba.prog 12 #[.slice a n c, .slice none 0 0, .slice ra rn rc, .agg #[.int .i64 A, .int .i64 M], .pointer (some ⟨g, 0, none⟩)] w fun e w' => ∃ a' n' c', e = .returned (.slice a' n' c') ∧
      Own w' B a' n' c' (xs ++ (fillL (min 64 d) hi ++ R)) ∧ Below B w w' := by
  have q := q22
  have HM : Hid (M = rn + d) := hd
  clear hd
  have d2 : d ≤ 255 := by have := HM.out; omega
  by_cases h64 : 64 ≤ d
  · have hmin : min 64 d = 64 := by omega
    rw [hmin]
    clear hmin
    go_enter Yba.func12, Yba.ntmps12
    go_wp2_with fail
    refine (room_nil' _ _ _ _ _ _ _ d (by omega) (by omega) M HM.out (by omega)).mono ?_
    rintro e w1 ⟨rfl, b1⟩
    have b1' : Below w.heap.size w w1 := ((Below.refl _ w).alloc (Nat.le_refl _) _).trans (b1.mono (by simp))
    have s1 := b1'.size
    go_wp2_with fail
    refine (fill_full w1 B a n c xs (ho.belowAll b1') (by omega) (by omega) g lo hi (r.below b1' r.lt) hg).mono ?_
    rintro e w2 ⟨a2, n2, c2, rfl, g2, b2⟩
    have b2' : Below B w w2 := (b1'.mono hB).trans b2
    have s2 := b2'.size
    have l2 : n2 ≤ 1048576 := by rw [← g2.len]; simp [fillL, ho.len]; omega
    clear b1 b1' b2 s1
    go_wp2_with (at_builtin; refine wpApp rfl _ _ rfl B _ _ _ _ rfl g2 _ _ _ _ rfl (hr.below b2' hrB) ?_ ?_ ?_)
    · omega
    · omega
    intro a3 c3 w3 g3 q3 k3 _
    have b3 : Below B w w3 := b2'.grown q3 (by omega) (fun k e => (g2.lt k e).1)
    go_wp2
    go_ret
    exact ⟨_, _, _, rfl, by simpa using g3, b3⟩
  · have hmin : min 64 d = d := by omega
    rw [hmin]
    clear hmin
    go_enter Yba.func12, Yba.ntmps12
    go_wp2_with fail
    refine (room_nil' _ _ _ _ _ _ _ d (by omega) (by omega) M HM.out (by omega)).mono ?_
    rintro e w1 ⟨rfl, b1⟩
    have b1' : Below w.heap.size w w1 := ((Below.refl _ w).alloc (Nat.le_refl _) _).trans (b1.mono (by simp))
    have s1 := b1'.size
    go_wp2_with fail
    refine (fill_any w1 B a n c xs (ho.belowAll b1') (by omega) (by omega) g lo hi (r.below b1' r.lt) hg d (by omega)).mono ?_
    rintro e w2 ⟨a2, n2, c2, rfl, g2, b2⟩
    have b2' : Below B w w2 := (b1'.mono hB).trans b2
    have s2 := b2'.size
    have l2 : n2 ≤ 1048576 := by rw [← g2.len, List.length_append, ho.len]; unfold fillL; split <;> simp <;> omega
    clear b1 b1' b2 s1
    go_wp2_with (at_builtin; refine wpApp rfl _ _ rfl B _ _ _ _ rfl g2 _ _ _ _ rfl (hr.below b2' hrB) ?_ ?_ ?_)
    · omega
    · omega
    intro a3 c3 w3 g3 q3 k3 _
    have b3 : Below B w w3 := b2'.grown q3 (by omega) (fun k e => (g2.lt k e).1)
    go_wp2
    go_ret
    exact ⟨_, _, _, rfl, by simpa using g3, b3⟩

set_option maxRecDepth 20000 in
set_option maxHeartbeats 1000000 in
/-- Two or more labels below the apex: the ancestor one label below it. -/
theorem pred_deep (w : World) (B : Nat) (a : Option Addr) (n c : Nat) (xs : List Int) (ho : Own w B a n c xs) (hB : B ≤ w.heap.size) (hn : n ≤ 65536)
    (la : Addr) (ln lc : Nat) (ra : Option Addr) (rn rc : Nat) (bs : List (List Int)) (ap : List Int) (hr : Has w ra rn rc (bs.flatten ++ ap)) (hrB : ∀ b, blk ra = some b → b < B) (hrn : rn ≤ 255)
    (hbs : ∀ b ∈ bs, Blk b) (hne : bs ≠ []) (hap : ap ≠ []) (M : Int) (g : Nat) :
    Calls Yba.prog 12 #[.slice a n c, .slice (some la) ln lc, .slice ra rn rc, .agg #[.int .i64 ap.length, .int .i64 M], .pointer (some ⟨g, 0, none⟩)] w fun e w' => ∃ a' n' c', e = .returned (.slice a' n' c') ∧
      Own w' B a' n' c' (xs ++ ((bs.flatten ++ ap).drop (off bs (bs.length - 1)))) ∧ Below B w w' := by
  have q := q22
  have hrl := hr.le; have hrx := hr.max; have hlen := hr.len
  unfold maxLen at hrx
  rw [List.length_append] at hlen
  have hapl : 0 < ap.length := List.length_pos_iff.2 hap
  have hm : 0 < bs.length := List.length_pos_iff.2 hne
  have ho1 := off_succ bs (bs.length - 1) (by omega)
  have hg1 := get_off bs ap (bs.length - 1) (by omega) hbs
  have hoa := off_all bs
  rw [show bs.length - 1 + 1 = bs.length from by omega, hoa] at ho1
  have hK : off bs (bs.length - 1) < bs.flatten.length := by omega
  generalize hoff : off bs (bs.length - 1) = K at hK ⊢
  have HK : Hid (off bs (bs.length - 1) = K) := hoff
  have HL : Hid (bs.flatten.length + ap.length = rn) := hlen
  have hKr : K < rn := by omega
  have hA : (ap.length : Int) < rn := by omega
  have hcut := hr.cut K rn (by omega) (by omega)
  obtain ⟨rb, ro, rfl, hcell⟩ := hr.at_ (by omega)
  clear hoff hlen ho1 hg1 hoa hcell
  have hdrop : Has w (some ⟨rb, ro + K, none⟩) (rn - K) (rc - K) ((bs.flatten ++ ap).drop K) := by
    rw [List.take_of_length_le (by have := hr.len; omega)] at hcut
    unfold adr at hcut
    rw [if_neg (by omega)] at hcut
    simpa [Addr.add_lit] using hcut
  clear hcut
  have hbx : Below w.heap.size w (w.alloc (.cells #[.int .i64 ap.length, .int .i64 M] 30)) := (Below.refl _ w).alloc (Nat.le_refl _) _
  go_enter Yba.func12, Yba.ntmps12
  go_wp2_with fail
  refine (child _ _ rn rc bs ap (hr.belowAll hbx) hbs hne).mono ?_
  rw [HK.out]
  rintro e w1 ⟨rfl, hw1⟩
  subst hw1
  go_wp2_with (at_builtin; refine wpApp rfl _ _ rfl B _ _ _ _ rfl (ho.alloc _) _ _ _ _ rfl (hdrop.alloc _) ?_ ?_ ?_)
  · omega
  · simp; omega
  intro a3 c3 w3 g3 q3 k3 _
  have b3 : Below B w w3 := (hbx.mono hB).grown q3 (by simp; omega) (fun k e => (ho.lt k e).1)
  go_wp2
  go_ret
  exact ⟨_, _, _, rfl, g3, b3⟩

set_option maxRecDepth 20000 in
set_option maxHeartbeats 1000000 in
/-- One label of one octet, not above the smallest. -/
theorem pred_one (w : World) (B : Nat) (a : Option Addr) (n c : Nat) (xs : List Int) (ho : Own w B a n c xs) (hB : B ≤ w.heap.size) (hn : n ≤ 65536)
    (la : Option Addr) (lc m : Nat) (hl : Has w la 1 lc [(m : Int)]) (hlB : ∀ b, blk la = some b → b < B)
    (ra : Option Addr) (rn rc : Nat) (R : List Int) (hr : Has w ra rn rc R) (hrn : rn ≤ 255)
    (M : Int) (g : Nat) (lo hi : Int) (r : IsR w g lo hi) (hg : g < B) (hm : (m : Int) ≤ lo) :
    Calls Yba.prog 12 #[.slice a n c, .slice la 1 lc, .slice ra rn rc, .agg #[.int .i64 rn, .int .i64 M], .pointer (some ⟨g, 0, none⟩)] w fun e w' => ∃ a' n' c', e = .returned (.slice a' n' c') ∧
      Own w' B a' n' c' (xs ++ R) ∧ Below B w w' := by
  have q := q22
  have hll := hl.le
  obtain ⟨lb, lf, rfl, hcell⟩ := hl.at_ (by omega)
  have hlb := hlB lb rfl
  have lbw : lb < w.heap.size := by omega
  have gw : g < w.heap.size := by omega
  have hc0 : w.cell? ⟨lb, lf, none⟩ = some (.int .u8 m) := by simpa using hcell 0 (by omega)
  have hmn := r.mn
  clear hcell
  have hbx : Below w.heap.size w (w.alloc (.cells #[.int .i64 rn, .int .i64 M] 30)) := (Below.refl _ w).alloc (Nat.le_refl _) _
  go_enter Yba.func12, Yba.ntmps12
  go_wp2
  go_quiet (fail)
  go_wp2_with (at_builtin; refine wpApp rfl _ _ rfl B _ _ _ _ rfl ((ho.alloc _).belowAll (below_drewN (Below.refl _ _) _)) _ _ _ _ rfl ((hr.alloc _).drewN _) ?_ ?_ ?_)
  · omega
  · simp; omega
  intro a3 c3 w3 g3 q3 k3 _
  have b3 : Below B w w3 := (below_drewN (hbx.mono hB) _).grown q3 (by simp; omega) (fun k e => (ho.lt k e).1)
  go_wp2
  go_ret
  exact ⟨_, _, _, rfl, g3, b3⟩

set_option maxRecDepth 20000 in
set_option maxHeartbeats 1000000 in
/-- The rightmost octet is not above the smallest: it goes. -/
theorem pred_cut (w : World) (B : Nat) (a : Option Addr) (n c : Nat) (xs : List Int) (ho : Own w B a n c xs) (hB : B ≤ w.heap.size) (hn : n ≤ 65536)
    (la : Option Addr) (k lc m : Nat) (ini : List Int) (hl : Has w la (k + 1) lc (ini ++ [(m : Int)])) (hlB : ∀ b, blk la = some b → b < B) (hk0 : 1 ≤ k) (hk : k ≤ 62)
    (ra : Option Addr) (rn rc : Nat) (R : List Int) (hr : Has w ra rn rc R) (hrB : 0 < rc → ∀ b, blk ra = some b → b < B) (hrn : rn ≤ 255)
    (M : Int) (g : Nat) (lo hi : Int) (r : IsR w g lo hi) (hg : g < B) (hm : (m : Int) ≤ lo) :
    Calls Yba.prog 12 #[.slice a n c, .slice la (k + 1) lc, .slice ra rn rc, .agg #[.int .i64 rn, .int .i64 M], .pointer (some ⟨g, 0, none⟩)] w fun e w' => ∃ a' n' c', e = .returned (.slice a' n' c') ∧
      Own w' B a' n' c' (xs ++ ((k : Int) :: (ini ++ R))) ∧ Below B w w' := by
  have q := q22
  have hll := hl.le; have hlx := hl.max; have hlen := hl.len
  unfold maxLen at hlx
  have hini : ini.length = k := by simpa using hlen
  have hfr := hl.front k hini
  obtain ⟨lb, lf, rfl, hcell⟩ := hl.at_ (by omega)
  have hlb := hlB lb rfl
  have lbw : lb < w.heap.size := by omega
  have gw : g < w.heap.size := by omega
  have hlast : w.cell? ⟨lb, lf + k, none⟩ = some (.int .u8 m) := by
    have := hcell k (by omega)
    rw [this]; simp [List.getD, ← hini]
  have hmn := r.mn
  have hg1 : (((k : Int) + 1) == 1) = false := by simp; omega
  have hwk : IntKind.i64.wrap (k : Int) = k := IntWalk.i64_in _ (by omega)
  have hk1 : (k : Int) < (k : Int) + 1 := by omega
  have HI : Hid (ini.length = k) := hini
  clear hcell hini hlen
  have hbx : Below w.heap.size w (w.alloc (.cells #[.int .i64 rn, .int .i64 M] 30)) := (Below.refl _ w).alloc (Nat.le_refl _) _
  go_enter Yba.func12, Yba.ntmps12
  go_wp2
  go_quiet (fail)
  go_wp2
  go_quiet (fail)
  go_wp2_with (at_builtin; refine wpApp rfl _ _ rfl B _ _ _ _ rfl (((ho.alloc _).belowAll (below_drewN (Below.refl _ _) _)).alloc _) _ _ _ _ rfl (hasLit' _ _ _ (by simp)) ?_ ?_ ?_)
  · omega
  · simp; omega
  intro a2 c2 w2 g2 q2 k2 _
  have b2 : Below B w w2 := ((below_drewN (hbx.mono hB) _).alloc (by simp; omega) _).grown q2 (by simp; omega) (fun k e => (ho.lt k e).1)
  have s2 := b2.size
  clear q2 k2 hbx hlast hmn
  go_wp2_with (at_builtin; refine wpApp rfl _ _ rfl B _ _ _ _ rfl g2 _ _ _ _ rfl (hfr.below b2 (fun _ => hlB)) ?_ ?_ ?_)
  · omega
  · omega
  intro a3 c3 w3 g3 q3 k3 _
  have b3 : Below B w w3 := b2.grown q3 (by omega) (fun k e => (g2.lt k e).1)
  have s3 := b3.size
  clear q3 k3 g2 b2
  go_wp2_with (at_builtin; refine wpApp rfl _ _ rfl B _ _ _ _ rfl g3 _ _ _ _ rfl (hr.below b3 hrB) ?_ ?_ ?_)
  · omega
  · omega
  intro a4 c4 w4 g4 q4 k4 _
  have b4 : Below B w w4 := b3.grown q4 (by omega) (fun k e => (g3.lt k e).1)
  go_wp2
  go_ret
  exact ⟨_, _, _, rfl, by simpa using g4, b4⟩

set_option maxRecDepth 20000 in
set_option maxHeartbeats 1000000 in
/-- The rightmost octet goes down, and the label grows. -/
theorem pred_dec (w : World) (B : Nat) (a : Option Addr) (n c : Nat) (xs : List Int) (ho : Own w B a n c xs) (hB : B ≤ w.heap.size) (hn : n ≤ 65536)
    (la : Option Addr) (k lc m : Nat) (ini : List Int) (hl : Has w la (k + 1) lc (ini ++ [(m : Int)])) (hlB : ∀ b, blk la = some b → b < B) (hk : k ≤ 62)
    (ra : Option Addr) (rn rc : Nat) (R : List Int) (hr : Has w ra rn rc R) (hrB : 0 < rc → ∀ b, blk ra = some b → b < B) (hrn : rn ≤ 255)
    (M : Int) (hM0 : 0 ≤ M) (hM : M ≤ 255) (grow : Nat) (hgr : (grow : Int) = min (63 - ((k + 1 : Nat) : Int)) (M - (1 + ((k + 1 : Nat) : Int) + rn)))
    (g : Nat) (lo hi : Int) (r : IsR w g lo hi) (hg : g < B) (hm : lo < (m : Int)) (hm2 : m < 256) :
    Calls Yba.prog 12 #[.slice a n c, .slice la (k + 1) lc, .slice ra rn rc, .agg #[.int .i64 rn, .int .i64 M], .pointer (some ⟨g, 0, none⟩)] w fun e w' => ∃ a' n' c', e = .returned (.slice a' n' c') ∧
      Own w' B a' n' c' (xs ++ (((k + 1 + grow : Nat) : Int) :: (ini ++ (bel lo hi m :: (List.replicate grow hi ++ R))))) ∧ Below B w w' := by
  have q := q22
  have hll := hl.le; have hlx := hl.max; have hlen := hl.len
  unfold maxLen at hlx
  have hini : ini.length = k := by simpa using hlen
  obtain ⟨lb, lf, rfl, hcell⟩ := hl.at_ (by omega)
  have hlb := hlB lb rfl
  have lbw : lb < w.heap.size := by omega
  have gw : g < w.heap.size := by omega
  have hlast : w.cell? ⟨lb, lf + k, none⟩ = some (.int .u8 m) := by
    have := hcell k (by omega)
    rw [this]; simp [List.getD, ← hini]
  have hmn := r.mn
  have hmd : decide ((m : Int) ≤ lo) = false := by simp; omega
  have hwk : IntKind.i64.wrap (k : Int) = k := IntWalk.i64_in _ (by omega)
  have hk1 : (k : Int) < (k : Int) + 1 := by omega
  have HI : Hid (ini.length = k) := hini
  have HG : Hid ((grow : Int) = min (63 - ((k + 1 : Nat) : Int)) (M - (1 + ((k + 1 : Nat) : Int) + rn))) := hgr
  have hgl : k + 1 + grow ≤ 63 := by omega
  clear hcell hini hlen hgr
  have hbx : Below w.heap.size w (w.alloc (.cells #[.int .i64 rn, .int .i64 M] 30)) := (Below.refl _ w).alloc (Nat.le_refl _) _
  by_cases hk0 : k = 0
  · subst hk0
    have hlast0 : w.cell? ⟨lb, lf, none⟩ = some (.int .u8 m) := hlast
    go_enter Yba.func12, Yba.ntmps12
    go_wp2
    go_quiet (fail)
    go_wp2
    go_quiet (fail)
    go_wp2_with fail
    refine (growth' _ _ M _ 1 lc _ rn rc (by omega) (by omega) hM0 (by omega) grow HG.out).mono ?_
    rintro e w1 ⟨rfl, b1⟩
    have b1' : Below w.heap.size w w1 := (below_drewN hbx _).trans (b1.mono (by simp))
    have s1 := b1'.size
    clear b1
    go_wp2_with fail
    refine (decreased w1 B a n c xs (ho.belowAll b1') (by omega) (by omega) _ 0 lc ini m (hl.belowAll b1') hlB ra rn rc R (hr.belowAll b1') hrB (by omega) g lo hi (r.below b1' gw) hg grow hgl hm2 hm).mono ?_
    rintro e w2 ⟨a2, n2, c2, rfl, g2, b2⟩
    go_wp2
    go_ret
    exact ⟨_, _, _, rfl, g2, (b1'.mono hB).trans b2⟩
  · have hg1 : (((k : Int) + 1) == 1) = false := by simp; omega
    go_enter Yba.func12, Yba.ntmps12
    go_wp2
    go_quiet (fail)
    go_wp2
    go_quiet (fail)
    go_wp2_with fail
    refine (growth' _ _ M _ (k + 1) lc _ rn rc (by omega) (by omega) hM0 (by omega) grow HG.out).mono ?_
    rintro e w1 ⟨rfl, b1⟩
    have b1' : Below w.heap.size w w1 := (below_drewN hbx _).trans (b1.mono (by simp))
    have s1 := b1'.size
    clear b1
    go_wp2_with fail
    refine (decreased w1 B a n c xs (ho.belowAll b1') (by omega) (by omega) _ k lc ini m (hl.belowAll b1') hlB ra rn rc R (hr.belowAll b1') hrB (by omega) g lo hi (r.below b1' gw) hg grow hgl hm2 hm).mono ?_
    rintro e w2 ⟨a2, n2, c2, rfl, g2, b2⟩
    go_wp2
    go_ret
    exact ⟨_, _, _, rfl, g2, (b1'.mono hB).trans b2⟩
end Go.Proofs.Ybulkbdaq
