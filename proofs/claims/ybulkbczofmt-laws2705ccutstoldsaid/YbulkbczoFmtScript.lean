/-
  Script at a scenario whose faults are partitions.
-/
import Derived.Test.YbulkbczoFmtSorted
namespace Go.Proofs.YbulkbczoFmt
open Go.RowKit Go.Shelf

attribute [local go_sem] Oper.semAt_some

/-- A partition: its round, its span, the block of its nodes, the nodes (counted from nought). -/
structure Flt where
  r : Nat
  s : Nat
  nb : Nat
  ids : List Nat

def nodesV (f : Flt) : Value := .slice (some ⟨f.nb, 0, none⟩) f.ids.length f.ids.length
def bitsOf (ids : List Nat) : Nat := ids.foldl (fun b k => b ||| 2 ^ k) 0
/-- What the map of cuts holds behind the faults. -/
def cutF (n : Nat) (fs : List Flt) : Int → Option Value :=
  fs.foldl (fun g f => fun q => if (f.r : Int) ≤ q ∧ q < (f.r : Int) + (f.s : Int) then some (.agg #[.int .i64 n, .int .u32 (bitsOf f.ids)]) else g q) (fun _ => none)

theorem bitsOf_lt (n : Nat) (ids : List Nat) (h : ∀ k ∈ ids, k < n) : bitsOf ids < 2 ^ n := by
  have gen : ∀ (l : List Nat) (b : Nat), b < 2 ^ n → (∀ k ∈ l, k < n) → l.foldl (fun b k => b ||| 2 ^ k) b < 2 ^ n := by
    intro l
    induction l with
    | nil => intro b hb _; exact hb
    | cons x l ih =>
      intro b hb hl
      exact ih _ (Nat.or_lt_two_pow hb (Nat.pow_lt_pow_right (by omega) (hl x (List.mem_cons_self ..)))) (fun k hk => hl k (List.mem_cons_of_mem _ hk))
  exact gen ids 0 (Nat.pos_of_ne_zero (by simp)) h
theorem bitsOf_snoc (ids : List Nat) (k : Nat) (h : k < ids.length) : bitsOf (ids.take (k + 1)) = bitsOf (ids.take k) ||| 2 ^ ids[k] := by
  unfold bitsOf
  rw [List.take_succ_eq_append_getElem h, List.foldl_append]
  rfl

structure FaultAt (w : World) (fb : Nat) (n i : Nat) (f : Flt) : Prop where
  c : ∀ j, j < 11 → w.cell? ⟨fb, i * 11 + j, none⟩ = (faultCells f.r f.s (nodesV f))[j]?
  r : f.r ≤ 1000
  s : f.s ≤ 1000
  len : f.ids.length ≤ 1024
  ids : ∀ k (h : k < f.ids.length), w.cell? ⟨f.nb, k, none⟩ = some (.int .i64 ((f.ids[k] : Int) + 1)) ∧ f.ids[k] < n
  lt : fb < w.heap.size ∧ (f.ids = [] ∨ f.nb < w.heap.size)

theorem tmps_lit (t : Array Value) (m : Nat) (h : t.size = m) : t = ((List.range m).map (fun k => t.getD k undef)).toArray := by
  apply Array.ext
  · simp [h]
  · intro i h1 h2
    simp [Array.getD, h1]

theorem cell_of {W : World} {b j : Nat} {cs : Array Value} {t : TypeId} {fr : Nat × Nat} {v : Value} (h : W.heap[b]? = some (.cells cs t fr)) (hj : cs[j]? = some v) : W.cell? ⟨b, j, none⟩ = some v := by
  simp [World.cell?, h, hj]
theorem frozen_of {W : World} {b j : Nat} {cs : Array Value} {t : TypeId} (h : W.heap[b]? = some (.cells cs t)) : W.frozen? ⟨b, j, none⟩ = false := by
  simp [World.frozen?, h]

theorem alloc_old {W : World} {o x : Obj} {k : Nat} (h : W.heap[k]? = some x) : (W.alloc o).heap[k]? = some x := (Below.heap_alloc _ _ _ (Array.getElem?_eq_some_iff.1 h).1).trans h
theorem alloc_new' {W : World} {o : Obj} {k : Nat} (h : k = W.heap.size) : (W.alloc o).heap[k]? = some o := by subst h; exact World.alloc_heap_new W o

/-- How many faults are still to come. -/
def leftTo (m : Nat) : Value → Nat
  | .int _ i => m - i.toNat
  | _ => 0

theorem mem_rounds (q : Int) (r s : Nat) : q ∈ rounds r s ↔ (r : Int) ≤ q ∧ q < (r : Int) + (s : Int) := by
  unfold rounds
  simp only [List.mem_map, List.mem_range]
  constructor
  · rintro ⟨k, hk, rfl⟩; omega
  · intro h; exact ⟨(q - r).toNat, by omega, by omega⟩
theorem cutF_snoc (n : Nat) (fs : List Flt) (i : Nat) (h : i < fs.length) : cutF n (fs.take (i + 1)) = fun q => if q ∈ rounds fs[i].r fs[i].s then some (.agg #[.int .i64 n, .int .u32 (bitsOf fs[i].ids)]) else cutF n (fs.take i) q := by
  unfold cutF
  rw [List.take_succ_eq_append_getElem h, List.foldl_append]
  funext q
  simp only [List.foldl_cons, List.foldl_nil, mem_rounds]

theorem grow_trans {A B C : World} {c : Nat} {row : Option Nat} (h : A.grownBy B (some c)) (g : B.grownBy C row) (hr : ∀ r, row = some r → r = c ∨ A.heap.size ≤ r) : A.grownBy C (some c) := by
  have hs := h.size
  refine ⟨g.1.trans h.1, g.2.trans h.2, g.3.trans h.3, Nat.le_trans h.size g.size, fun k hk hne => ?_⟩
  rw [g.block k (by omega) (fun e => ?_), h.block k hk hne]
  rcases hr k e.symm with rfl | h'
  · exact hne rfl
  · omega

/-- The marks that the rounds of ranges leave. -/
def marks (ds : List Nat) : List Deferred := ds.map (fun D => { target := .collected D, args := #[] })

theorem leavesM {F : Fence} {n : Nat} {P : Program} {fn : Func} {tmps : Array Value} {R : Ending → World → Prop} (B : Nat) : ∀ (ds : List Nat) (W : World), (∀ D ∈ ds, B ≤ D ∧ W.heap[D]? = some (.deferred (some []))) → ds.Nodup → B ≤ W.heap.size →
    (∀ W', Below B W W' → ∃ v, (results fn tmps).run P W' = .ok v W' ∧ R (.returned v) W') → LeavesInM F n P fn tmps R (marks ds) .returning W
  | [], W, _, _, _, h => h W (Below.refl _ _)
  | D :: ds, W, hm, hd, hB, h => by
    obtain ⟨hD, hK⟩ := hm D (List.mem_cons_self ..)
    refine ⟨by simp, .inl ⟨_, _, rfl, run_takeDeferred hK, leavesM B ds _ ?_ (List.nodup_cons.1 hd).2 (by simpa using hB) ?_⟩⟩
    · intro D' hD'
      have hne : D ≠ D' := fun e => (List.nodup_cons.1 hd).1 (e ▸ hD')
      obtain ⟨h1, h2⟩ := hm D' (List.mem_cons_of_mem _ hD')
      exact ⟨h1, (World.putObj_heap_other (Ne.symm hne)).trans h2⟩
    · intro W' hW'
      refine h W' (Below.trans ?_ hW')
      exact (Below.refl B W).grown (grownBy_putObj' W D _) hB (fun k e => by cases e; exact hD)

/-- Between two rounds of the loop over the faults. -/
structure ScriptAt (w : World) (n : Nat) (fs : List Flt) (i : Nat) (ds : List Nat) (wr : World) : Prop where
  le : i ≤ fs.length
  below : Below w.heap.size w wr
  res : wr.heap[w.heap.size]? = some (.cells #[.int .i64 0, .map none, .map none, .map none] 54)
  m1 : wr.heap[w.heap.size + 1]? = some (.map #[] 0)
  m2 : wr.heap[w.heap.size + 1 + 1]? = some (.map #[] 0)
  cut : CutMap wr (w.heap.size + 1 + 1 + 1) (cutF n (fs.take i))
  sc : wr.heap[w.heap.size + 1 + 1 + 1 + 1]? = some (.cells #[.int .i64 n, .map (some (w.heap.size + 1)), .map (some (w.heap.size + 1 + 1)), .map (some (w.heap.size + 1 + 1 + 1))] 54)
  marks : ∀ D ∈ ds, w.heap.size + 1 + 1 + 1 + 1 < D ∧ wr.heap[D]? = some (.deferred (some []))
  nodup : ds.Nodup

/-- The frame between two rounds. -/
structure ScriptFrame (p S fb m i : Nat) (ds : List Nat) (a : Act) : Prop where
  defers : a.defers = YbulkbczoFmt.marks ds
  size : a.tmps.size = 93
  t0 : a.tmps.getD 0 undef = .pointer (some ⟨p, 0, none⟩)
  t2 : a.tmps.getD 2 undef = .pointer (some ⟨S, 0, none⟩)
  t3 : a.tmps.getD 3 undef = .pointer (some ⟨S + 1 + 1 + 1 + 1, 0, none⟩)
  t26 : a.tmps.getD 26 undef = .slice (some ⟨fb, 0, none⟩) m m
  t27 : a.tmps.getD 27 undef = .int .i64 m
  t28 : a.tmps.getD 28 undef = .int .i64 i

theorem ScriptFrame.lit {p S fb m i : Nat} {ds : List Nat} {a : Act} (h : ScriptFrame p S fb m i ds a) : ∃ X : Nat → Value, X 0 = .pointer (some ⟨p, 0, none⟩) ∧ X 2 = .pointer (some ⟨S, 0, none⟩) ∧ X 3 = .pointer (some ⟨S + 1 + 1 + 1 + 1, 0, none⟩) ∧ X 26 = .slice (some ⟨fb, 0, none⟩) m m ∧ X 27 = .int .i64 m ∧ X 28 = .int .i64 i ∧
    a = { tmps := #[X 0, X 1, X 2, X 3, X 4, X 5, X 6, X 7, X 8, X 9, X 10, X 11, X 12, X 13, X 14, X 15, X 16, X 17, X 18, X 19, X 20, X 21, X 22, X 23, X 24, X 25, X 26, X 27, X 28, X 29, X 30, X 31, X 32, X 33, X 34, X 35, X 36, X 37, X 38, X 39, X 40, X 41, X 42, X 43, X 44, X 45, X 46, X 47, X 48, X 49, X 50, X 51, X 52, X 53, X 54, X 55, X 56, X 57, X 58, X 59, X 60, X 61, X 62, X 63, X 64, X 65, X 66, X 67, X 68, X 69, X 70, X 71, X 72, X 73, X 74, X 75, X 76, X 77, X 78, X 79, X 80, X 81, X 82, X 83, X 84, X 85, X 86, X 87, X 88, X 89, X 90, X 91, X 92], defers := marks ds } := by
  refine ⟨fun k => a.tmps.getD k undef, h.t0, h.t2, h.t3, h.t26, h.t27, h.t28, ?_⟩
  obtain ⟨t, d⟩ := a
  have e1 := tmps_lit t 93 h.size
  have e2 : d = marks ds := h.defers
  subst e2
  show Act.mk t _ = _
  have e3 : ((List.range 93).map (fun k => t.getD k undef)).toArray = (fun X : Nat → Value => #[X 0, X 1, X 2, X 3, X 4, X 5, X 6, X 7, X 8, X 9, X 10, X 11, X 12, X 13, X 14, X 15, X 16, X 17, X 18, X 19, X 20, X 21, X 22, X 23, X 24, X 25, X 26, X 27, X 28, X 29, X 30, X 31, X 32, X 33, X 34, X 35, X 36, X 37, X 38, X 39, X 40, X 41, X 42, X 43, X 44, X 45, X 46, X 47, X 48, X 49, X 50, X 51, X 52, X 53, X 54, X 55, X 56, X 57, X 58, X 59, X 60, X 61, X 62, X 63, X 64, X 65, X 66, X 67, X 68, X 69, X 70, X 71, X 72, X 73, X 74, X 75, X 76, X 77, X 78, X 79, X 80, X 81, X 82, X 83, X 84, X 85, X 86, X 87, X 88, X 89, X 90, X 91, X 92]) (fun k => t.getD k undef) := by rfl
  rw [e3] at e1
  exact congrArg (fun z => Act.mk z (marks ds)) e1

set_option maxRecDepth 100000 in
set_option maxHeartbeats 1000000 in
theorem script_in (p fb n : Nat) (fs : List Flt) (w : World) (hn : 1 ≤ n) (hn2 : n ≤ 32) (hm : fs.length ≤ 1024)
    (hp2 : w.cell? ⟨p, 2, none⟩ = some (.int .i64 n)) (hp11 : w.cell? ⟨p, 11, none⟩ = some (.slice (some ⟨fb, 0, none⟩) fs.length fs.length)) (hpl : p < w.heap.size)
    (hf : Hid (∀ i (h : i < fs.length), FaultAt w fb n i fs[i])) :
    CallsIn Fence.wide 10 Ybaf.prog 6 #[.pointer (some ⟨p, 0, none⟩)] w fun e w' => ∃ a b c, e = .returned (.agg #[.int .i64 n, .map (some a), .map (some b), .map (some c)]) ∧ w'.heap[a]? = some (.map #[] 0) ∧ w'.heap[b]? = some (.map #[] 0) ∧ CutMap w' c (cutF n fs) ∧ Below w.heap.size w w' := by
  have hmm := @run_makeMap Ybaf.prog
  refine callsIn_of_wp_marks Ybaf.func6 rfl trivial ?_ rfl
  simp only [Ybaf.ntmps6, List.size_toArray, List.length_cons, List.length_nil, Nat.reduceAdd, Nat.reduceSub, Array.replicate_succ, Array.replicate_zero, List.push_toArray, List.append_toArray, List.nil_append, List.cons_append]
  have q0 : p ≠ w.heap.size := by omega
  have q1 : p ≠ w.heap.size + 1 := by omega
  have q2 : p ≠ w.heap.size + 1 + 1 := by omega
  have q3 : p ≠ w.heap.size + 1 + 1 + 1 := by omega
  have q4 : p ≠ w.heap.size + 1 + 1 + 1 + 1 := by omega
  have g1 : p < w.heap.size + 1 := by omega
  have g2 : p < w.heap.size + 1 + 1 := by omega
  have g3 : p < w.heap.size + 1 + 1 + 1 := by omega
  have g4 : p < w.heap.size + 1 + 1 + 1 + 1 := by omega
  gi_wp2
  clear hmm q0 q1 q2 q3 q4 g1 g2 g3 g4
  refine wpIn_loop (fun a wr => ∃ i ds, ScriptAt w n fs i ds wr ∧ ScriptFrame p w.heap.size fb fs.length i ds a)
    (fun a _ => leftTo fs.length (a.tmps.getD 28 undef)) ?start ?round
  case start =>
    refine ⟨0, [], ?_, ⟨rfl, rfl, rfl, rfl, rfl, rfl, rfl, rfl⟩⟩
    refine ⟨Nat.zero_le _, ?_, ?_, ?_, ?_, ⟨#[], 0, ?_, good_nil⟩, ?_, by simp, by simp⟩
    · exact (((((Below.refl _ w).alloc (Nat.le_refl _) _).alloc (by simp) _).alloc (by simp; omega) _).alloc (by simp; omega) _).alloc (by simp; omega) _
    · exact alloc_old (alloc_old (alloc_old (alloc_old (alloc_new' rfl))))
    · exact alloc_old (alloc_old (alloc_old (alloc_new' (by simp))))
    · exact alloc_old (alloc_old (alloc_new' (by simp)))
    · exact alloc_old (alloc_new' (by simp))
    · exact alloc_new' (by simp)
  case round =>
    rintro a wo ⟨i, ds, hat, hfr⟩
    obtain ⟨X, x0, x2, x3, x26, x27, x28, rfl⟩ := hfr.lit
    simp only [x0, x2, x3, x26, x27, x28]
    clear x0 x2 x3 x26 x27 x28 hfr
    by_cases hlt : i < fs.length
    · have hd : decide ((i : Int) < (fs.length : Int)) = true := decide_eq_true (by omega)
      have hF : FaultAt w fb n i fs[i] := hf i hlt
      generalize hfi : fs[i] = f at hF
      have k0 : wo.cell? ⟨fb, i * 11, none⟩ = some (.int .i64 f.r) := (hat.below.cell (p := ⟨fb, i * 11, none⟩) hF.lt.1).trans (hF.c 0 (by omega))
      have k1 : wo.cell? ⟨fb, i * 11 + 1, none⟩ = some (.pointer none) := (hat.below.cell (p := ⟨fb, i * 11 + 1, none⟩) hF.lt.1).trans (hF.c 1 (by omega))
      have k2 : wo.cell? ⟨fb, i * 11 + 2, none⟩ = some (.int .i64 0) := (hat.below.cell (p := ⟨fb, i * 11 + 2, none⟩) hF.lt.1).trans (hF.c 2 (by omega))
      have k3 : wo.cell? ⟨fb, i * 11 + 3, none⟩ = some partStr := (hat.below.cell (p := ⟨fb, i * 11 + 3, none⟩) hF.lt.1).trans (hF.c 3 (by omega))
      have k4 : wo.cell? ⟨fb, i * 11 + 4, none⟩ = some (.int .i64 0) := (hat.below.cell (p := ⟨fb, i * 11 + 4, none⟩) hF.lt.1).trans (hF.c 4 (by omega))
      have k5 : wo.cell? ⟨fb, i * 11 + 5, none⟩ = some (.int .u32 0) := (hat.below.cell (p := ⟨fb, i * 11 + 5, none⟩) hF.lt.1).trans (hF.c 5 (by omega))
      have k6 : wo.cell? ⟨fb, i * 11 + 6, none⟩ = some (.map none) := (hat.below.cell (p := ⟨fb, i * 11 + 6, none⟩) hF.lt.1).trans (hF.c 6 (by omega))
      have k7 : wo.cell? ⟨fb, i * 11 + 7, none⟩ = some (.slice none 0 0) := (hat.below.cell (p := ⟨fb, i * 11 + 7, none⟩) hF.lt.1).trans (hF.c 7 (by omega))
      have k8 : wo.cell? ⟨fb, i * 11 + 8, none⟩ = some (.pointer none) := (hat.below.cell (p := ⟨fb, i * 11 + 8, none⟩) hF.lt.1).trans (hF.c 8 (by omega))
      have k9 : wo.cell? ⟨fb, i * 11 + 9, none⟩ = some (.int .i64 f.s) := (hat.below.cell (p := ⟨fb, i * 11 + 9, none⟩) hF.lt.1).trans (hF.c 9 (by omega))
      have k10 : wo.cell? ⟨fb, i * 11 + 10, none⟩ = some (nodesV f) := (hat.below.cell (p := ⟨fb, i * 11 + 10, none⟩) hF.lt.1).trans (hF.c 10 (by omega))
      have hfbl : fb < wo.heap.size := Nat.lt_of_lt_of_le hF.lt.1 hat.below.size
      unfold partStr at k3
      unfold nodesV at k10
      have HF : Hid _ := hF
      have HAT : Hid _ := hat
      have Hfi : Hid _ := hfi
      have cB : ∀ W, CallsIn Fence.wide 9 Ybaf.prog 9 #[.int .i64 n, .int .u32 0] W fun e w' => e = .returned (.agg #[.int .i64 n, .int .u32 0]) ∧ Below W.heap.size W w' := fun W => callsIn_wide.2 (fromBits n 0 hn hn2 (Nat.pos_of_ne_zero (by simp)) W)
      have hp2' : wo.cell? ⟨p, 2, none⟩ = some (.int .i64 n) := (hat.below.cell (p := ⟨p, 2, none⟩) hpl).trans hp2
      have hpl' : p < wo.heap.size := Nat.lt_of_lt_of_le hpl hat.below.size
      have hpn : p ≠ wo.heap.size := by omega
      have hf9 : Fence.wide.fn 9 := trivial
      clear hF hat hfi
      gi_wp2_with (gi_at_call 9; refine (cB _).mono ?_; rintro e w1 ⟨rfl, hb1⟩
                   have HB5 : Hid (w1.heap[wo.heap.size]? = some (.cells (faultCells f.r f.s (nodesV f)) 36)) := (hb1.block _ (by simp)).trans (World.alloc_heap_new wo _)
                   have y10 : w1.cell? ⟨wo.heap.size, 10, none⟩ = some (.slice (some ⟨f.nb, 0, none⟩) f.ids.length f.ids.length) := cell_of HB5 rfl
                   have hlt1 : wo.heap.size < w1.heap.size := by have := hb1.size; simp at this; omega
                   have hne1 : wo.heap.size ≠ w1.heap.size := by omega)
      clear k0 k1 k2 k3 k4 k5 k6 k7 k8 k9 k10 cB hf9 hd
      have HB1 : Hid (Below wo.heap.size wo w1) := ((Below.refl _ wo).alloc (Nat.le_refl _) _).trans (hb1.mono (by simp))
      clear hb1
      have HB6 : Hid ((w1.alloc (.cells #[.int .i64 n, .int .u32 0] 31)).heap[w1.heap.size]? = some (.cells #[.int .i64 n, .int .u32 0] 31)) := World.alloc_heap_new w1 _
      gi_loopw [43] (fun v wq => ∃ k : Nat, v = .int .i64 k ∧ k ≤ f.ids.length ∧ wq.heap[w1.heap.size]? = some (.cells #[.int .i64 n, .int .u32 (bitsOf (f.ids.take k))] 31) ∧ Below w1.heap.size w1 wq)
        (fun v _ => match v with | .int _ k => f.ids.length - k.toNat | _ => 0)
      case atStart =>
        exact ⟨0, rfl, Nat.zero_le _, HB6, (Below.refl _ w1).alloc (Nat.le_refl _) _⟩
      case round =>
        obtain ⟨k, rfl, hk, hq6, hqb⟩ := hrel
        have t0 : wr.cell? ⟨w1.heap.size, 0, none⟩ = some (.int .i64 n) := cell_of hq6 rfl
        have t1 : wr.cell? ⟨w1.heap.size, 1, none⟩ = some (.int .u32 (bitsOf (f.ids.take k))) := cell_of hq6 rfl
        have hs1 : w1.heap.size < wr.heap.size := (Array.getElem?_eq_some_iff.1 hq6).1
        have HQ6 : Hid _ := hq6
        have HQB : Hid _ := hqb
        clear hq6 hqb
        by_cases hkl : k < f.ids.length
        · have hd : decide ((k : Int) < (f.ids.length : Int)) = true := decide_eq_true (by omega)
          have hnb : f.nb < w.heap.size := by
            rcases HF.lt.2 with e | e
            · rw [e] at hkl; simp at hkl
            · exact e
          have hBw : Below w.heap.size w wr := (HAT.below.trans (HB1.mono HAT.below.size)).trans (HQB.mono (by have := HAT.below.size; omega))
          have hid : wr.cell? ⟨f.nb, k, none⟩ = some (.int .i64 ((f.ids[k] : Int) + 1)) := (hBw.cell (p := ⟨f.nb, k, none⟩) hnb).trans (HF.ids k hkl).1
          have hnbl : f.nb < wr.heap.size := Nat.lt_of_lt_of_le hnb hBw.size
          have HBW : Hid _ := hBw
          have hbl : bitsOf (f.ids.take k) < 2 ^ n := bitsOf_lt n _ (fun j hj => by
            obtain ⟨q, hq, rfl⟩ := List.getElem_of_mem (List.mem_of_mem_take hj)
            exact (HF.ids q hq).2)
          have cW : CallsIn Fence.wide 9 Ybaf.prog 10 #[.agg #[.int .i64 n, .int .u32 (bitsOf (f.ids.take k))], .int .i64 ((f.ids[k] : Int) + 1)] wr _ := callsIn_wide.2 (with_ n (bitsOf (f.ids.take k)) f.ids[k] (HF.ids k hkl).2 hn2 hbl wr)
          rw [← bitsOf_snoc f.ids k hkl] at cW
          have HBL : Hid _ := hbl
          clear hbl hBw
          have hf10 : Fence.wide.fn 10 := trivial
          have hwk : IntKind.i64.wrap ((k : Int) + 1) = (k : Int) + 1 := IntWalk.i64_in _ (by have := HF.len; omega)
          gi_wp2_with (gi_at_call 10; refine cW.mono ?_; rintro e w3 ⟨rfl, hb3⟩
                       have HC6 : Hid (w3.heap[w1.heap.size]? = some (.cells #[.int .i64 n, .int .u32 (bitsOf (f.ids.take k))] 31)) := (hb3.block _ hs1).trans HQ6
                       have s0 : w3.cell? ⟨w1.heap.size, 0, none⟩ = some (.int .i64 n) := cell_of HC6 rfl
                       have s1 : w3.cell? ⟨w1.heap.size, 1, none⟩ = some (.int .u32 (bitsOf (f.ids.take k))) := cell_of HC6 rfl
                       have s2 : w3.frozen? ⟨w1.heap.size, 0, none⟩ = false := frozen_of HC6
                       have s3 : w3.frozen? ⟨w1.heap.size, 1, none⟩ = false := frozen_of HC6)
          go_roundw
          case rel => exact ⟨k + 1, by simp, hkl, heap_setCell_same _ _ 1 _ _ _ (heap_setCell_same _ _ 0 _ _ _ HC6), (((HQB.trans (hb3.mono (by omega))).setCell (Nat.le_refl _) _).setCell (Nat.le_refl _) _)⟩
          case measure => simp; omega
        · have hd : decide ((k : Int) < (f.ids.length : Int)) = false := decide_eq_false (by omega)
          obtain rfl : k = f.ids.length := by omega
          rw [List.take_length] at t1 HQ6
          have HB5' : Hid (wr.heap[wo.heap.size]? = some (.cells (faultCells f.r f.s (nodesV f)) 36)) := (HQB.block _ hlt1).trans HB5
          have j0 : wr.cell? ⟨wo.heap.size, 0, none⟩ = some (.int .i64 f.r) := cell_of HB5' rfl
          have j1 : wr.cell? ⟨wo.heap.size, 1, none⟩ = some (.pointer none) := cell_of HB5' rfl
          have j2 : wr.cell? ⟨wo.heap.size, 2, none⟩ = some (.int .i64 0) := cell_of HB5' rfl
          have j3 : wr.cell? ⟨wo.heap.size, 3, none⟩ = some partStr := cell_of HB5' rfl
          have j4 : wr.cell? ⟨wo.heap.size, 4, none⟩ = some (.int .i64 0) := cell_of HB5' rfl
          have j5 : wr.cell? ⟨wo.heap.size, 5, none⟩ = some (.int .u32 0) := cell_of HB5' rfl
          have j6 : wr.cell? ⟨wo.heap.size, 6, none⟩ = some (.map none) := cell_of HB5' rfl
          have j7 : wr.cell? ⟨wo.heap.size, 7, none⟩ = some (.slice none 0 0) := cell_of HB5' rfl
          have j8 : wr.cell? ⟨wo.heap.size, 8, none⟩ = some (.pointer none) := cell_of HB5' rfl
          have j9 : wr.cell? ⟨wo.heap.size, 9, none⟩ = some (.int .i64 f.s) := cell_of HB5' rfl
          have j10 : wr.cell? ⟨wo.heap.size, 10, none⟩ = some (nodesV f) := cell_of HB5' rfl
          unfold partStr at j3
          unfold nodesV at j10
          have cWn := when_in Fence.wide 9 trivial rfl f.r f.s (nodesV f) wr
          simp only [faultCells, partStr, nodesV] at cWn
          have hf11 : Fence.wide.fn 11 := trivial
          gi_wp2_with (gi_at_call 11; refine cWn.mono ?_; rintro e w' ⟨rfl, rfl⟩)
          have hbox : (wr.alloc (.cells (faultCells f.r f.s (nodesV f)) 36)).heap[wr.heap.size]? = some (.cells (faultCells f.r f.s (nodesV f)) 36) := World.alloc_heap_new wr _
          obtain ⟨V, hV⟩ : ∃ V, wr.alloc (.cells (faultCells f.r f.s (nodesV f)) 36) = V := ⟨_, rfl⟩
          change Code.wpIn _ _ _ _ _ _ (wr.alloc (.cells (faultCells f.r f.s (nodesV f)) 36))
          rw [hV] at hbox ⊢
          have hVs : V.heap.size = wr.heap.size + 1 := by rw [← hV]; simp
          have hwoV : wo.grownBy V (some (w.heap.size + 1 + 1 + 1)) := by
            rw [← hV]
            have hB : Below wo.heap.size wo (wr.alloc (.cells (faultCells f.r f.s (nodesV f)) 36)) := (HB1.trans (HQB.mono (by omega))).alloc (by omega) _
            exact ⟨hB.os, hB.tape, hB.output, hB.size, fun k hk _ => hB.block k hk⟩
          have hS4 : w.heap.size + 1 + 1 + 1 + 1 < wo.heap.size := (Array.getElem?_eq_some_iff.1 HAT.sc).1
          have hsc : V.cell? ⟨w.heap.size + 1 + 1 + 1 + 1, 3, none⟩ = some (.map (some (w.heap.size + 1 + 1 + 1))) := cell_of ((hwoV.block _ hS4 (by simp)).trans HAT.sc) rfl
          have hc0 : V.cell? ⟨w1.heap.size, 0, none⟩ = some (.int .i64 n) := by rw [← hV]; exact cell_of (alloc_old HQ6) rfl
          have hc1 : V.cell? ⟨w1.heap.size, 1, none⟩ = some (.int .u32 (bitsOf f.ids)) := by rw [← hV]; exact cell_of (alloc_old HQ6) rfl
          have hcm : CutMap V (w.heap.size + 1 + 1 + 1) (cutF n (fs.take i)) := by
            rw [← hV]
            obtain ⟨es, ck, h1, h2⟩ := HAT.cut
            have hc : w.heap.size + 1 + 1 + 1 < wo.heap.size := by omega
            exact ⟨es, ck, alloc_old ((HQB.block _ (by omega)).trans ((HB1.block _ hc).trans h1)), h2⟩
          refine wpIn_rangeFunc_ownG (α := Int) rfl (by omega) (gf := 20) (lb := #[.pointer (some ⟨wr.heap.size, 0, none⟩)]) rfl trivial (enters_of Ybaf.func20 (by kernel_rfl) rfl)
            (when_stops Fence.wide 9 trivial rfl (by omega) wr.heap.size f.r f.s HF.r HF.s (nodesV f) V hbox) (fun h1 h2 => h2.trans h1) (fun W l o o' hl _ _ _ => World.putObj_heap_other (by omega)) (Below.refl _ _) (fun _ => rfl)
            (fun pre W => (W.cell? ⟨w.heap.size + 1 + 1 + 1 + 1, 3, none⟩ = some (.map (some (w.heap.size + 1 + 1 + 1))) ∧ W.cell? ⟨w1.heap.size, 0, none⟩ = some (.int .i64 n) ∧ W.cell? ⟨w1.heap.size, 1, none⟩ = some (.int .u32 (bitsOf f.ids))) ∧
              CutMap W (w.heap.size + 1 + 1 + 1) (fun q => if q ∈ pre then some (.agg #[.int .i64 n, .int .u32 (bitsOf f.ids)]) else cutF n (fs.take i) q) ∧ V.heap.size ≤ W.heap.size ∧ wo.grownBy W (some (w.heap.size + 1 + 1 + 1)))
            (fun _ _ _ => False) ?own (fun _ _ _ _ _ hs _ _ => hs) ⟨⟨hsc, hc0, hc1⟩, by simpa using hcm, Nat.le_refl _, hwoV⟩
            (fun x => { tmps := #[(.pointer (some ⟨p, 0, none⟩)), X 1, (.pointer (some ⟨w.heap.size, 0, none⟩)), (.pointer (some ⟨w.heap.size + 1 + 1 + 1 + 1, 0, none⟩)), X 4, (.pointer (some ⟨wo.heap.size, 0, none⟩)), (.pointer (some ⟨w1.heap.size, 0, none⟩)), X 7, u8, .int .i64 x, X 10, X 11, X 12, X 13, X 14, X 15, X 16, X 17, X 18, X 19, X 20, X 21, X 22, X 23, X 24, X 25, .slice (some ⟨fb, 0, none⟩) fs.length fs.length, .int .i64 fs.length, .int .i64 i, .bool true, (.pointer (some ⟨fb, i * 11, none⟩)), (.agg (faultCells f.r f.s (nodesV f))), (.pointer (some ⟨wo.heap.size, 3, none⟩)), partStr, .bool true, (.pointer (some ⟨p, 0, none⟩)), (.pointer (some ⟨p, 0, none⟩)), (.pointer (some ⟨p, 2, none⟩)), .int .i64 n, .agg #[.int .i64 n, .int .u32 0], (.pointer (some ⟨wo.heap.size, 10, none⟩)), .slice (some ⟨f.nb, 0, none⟩) f.ids.length f.ids.length, .int .i64 f.ids.length, .int .i64 f.ids.length, .bool false, u45, u46, u47, u48, u49, u50, (.agg (faultCells f.r f.s (nodesV f))), .func (.func 20) #[] #[.pointer (some ⟨wr.heap.size, 0, none⟩)], .int .i64 x, X 54, X 55, X 56, X 57, X 58, X 59, X 60, X 61, X 62, X 63, X 64, X 65, X 66, X 67, X 68, X 69, X 70, X 71, X 72, X 73, X 74, X 75, X 76, X 77, X 78, X 79, X 80, X 81, X 82, X 83, X 84, X 85, X 86, X 87, X 88, X 89, X 90, X 91, X 92], defers := [] }) ?assign ?body ?done ?stop
          case own =>
            rintro pre A B row ⟨⟨h1, h2, h3⟩, h4, h5, h6⟩ hg hr
            refine ⟨⟨cell_kept h1 hg (fun r e => (hr r e).2), cell_kept h2 hg (fun r e => (hr r e).2), cell_kept h3 hg (fun r e => (hr r e).2)⟩, h4.kept hg (fun e => by have := (hr _ e.symm).1; omega), Nat.le_trans h5 hg.size, grow_trans h6 hg (fun r e => .inr (by have := (hr r e).1; omega))⟩
          case assign =>
            intro l x W K hK
            gi_wp2
            exact hK
          case body =>
            rintro l pre x W ⟨⟨h1, h2, h3⟩, h4, h5, h6⟩ hlen
            obtain ⟨W2, hrun, hcm2, hgr⟩ := run_upd h4 x (.agg #[.int .i64 n, .int .u32 (bitsOf f.ids)])
            obtain ⟨es, ck, hh, _⟩ := h4
            have Hh : Hid _ := hh
            clear hh
            gi_wp2
            refine ⟨KeepsFrom.of_grownBy hgr (fun j e => by cases e; omega), hgr.block _ (by omega) (by intro e; have := Option.some.inj e; omega), ⟨cell_kept h1 hgr (fun r e => by cases e; exact ⟨_, Hh, rfl⟩), cell_kept h2 hgr (fun r e => by cases e; exact ⟨_, Hh, rfl⟩), cell_kept h3 hgr (fun r e => by cases e; exact ⟨_, Hh, rfl⟩)⟩, ?_, Nat.le_trans h5 hgr.size, grow_trans h6 hgr (fun r e => .inl (by cases e; rfl))⟩
            have e : (fun q => if q ∈ pre ++ [x] then some (Value.agg #[.int .i64 n, .int .u32 (bitsOf f.ids)]) else cutF n (fs.take i) q) = (fun j => if j = x then some (Value.agg #[.int .i64 n, .int .u32 (bitsOf f.ids)]) else if j ∈ pre then some (Value.agg #[.int .i64 n, .int .u32 (bitsOf f.ids)]) else cutF n (fs.take i) j) := by
              funext j
              by_cases h1 : j = x <;> by_cases h2 : j ∈ pre <;> simp [h1, h2]
              all_goals (subst h1; simp [h2])
            rw [e]; exact hcm2
          case done =>
            rintro D xs W hD rfl ⟨⟨h1, h2, h3⟩, h4, h5, h6⟩ hK
            have hwi : IntKind.i64.wrap ((i : Int) + 1) = (i : Int) + 1 := IntWalk.i64_in _ (by omega)
            have Hh4 : Hid _ := h4
            have HhK : Hid _ := hK
            have Hh6 : Hid _ := h6
            clear h4 hK h6
            gi_wp2
            refine ⟨⟨i + 1, D :: ds, ?_, ⟨rfl, rfl, rfl, rfl, rfl, rfl, rfl, rfl⟩⟩, by simp [leftTo]; omega⟩
            have keep : ∀ k o, k ≠ w.heap.size + 1 + 1 + 1 → wo.heap[k]? = some o → W.heap[k]? = some o := fun k o hk h => (Hh6.block k (Array.getElem?_eq_some_iff.1 h).1 (by intro e; exact hk (Option.some.inj e))).trans h
            refine ⟨hlt, HAT.below.grown Hh6 HAT.below.size (fun k e => by have := Option.some.inj e; omega), keep _ _ (by omega) HAT.res, keep _ _ (by omega) HAT.m1, keep _ _ (by omega) HAT.m2, ?_, keep _ _ (by omega) HAT.sc, ?_, ?_⟩
            · have Hfi' : fs[i] = f := Hfi
              rw [cutF_snoc n fs i hlt, Hfi']; exact Hh4
            · intro D' hD'
              rcases List.mem_cons.1 hD' with rfl | hD'
              · exact ⟨by omega, HhK⟩
              · obtain ⟨h7, h8⟩ := HAT.marks D' hD'
                exact ⟨h7, keep _ _ (by omega) h8⟩
            · refine List.nodup_cons.2 ⟨fun hD' => ?_, HAT.nodup⟩
              have := (Array.getElem?_eq_some_iff.1 (HAT.marks D hD').2).1
              omega
          case stop =>
            rintro D c pre W _ _ h _
            exact h.elim
    · have hd : decide ((i : Int) < (fs.length : Int)) = false := decide_eq_false (by omega)
      have hle := hat.le
      obtain rfl : i = fs.length := by omega
      have c1 : wo.cell? ⟨w.heap.size + 1 + 1 + 1 + 1, 1, none⟩ = some (.map (some (w.heap.size + 1))) := cell_of hat.sc rfl
      have hsz : w.heap.size + 1 + 1 + 1 + 1 < wo.heap.size := (Array.getElem?_eq_some_iff.1 hat.sc).1
      have cK := keys_in Fence.wide 9 trivial rfl (.map (some (w.heap.size + 1))) _ rfl wo
      have cS : CallsIn Fence.wide 9 Ybaf.prog 12 _ (wo.alloc (.cells #[.map (some (w.heap.size + 1))] 50)) _ := sorted_in 9 (by omega) (.func (.func 14) #[] #[]) wo.heap.size (w.heap.size + 1) (wo.alloc (.cells #[.map (some (w.heap.size + 1))] 50)) (World.alloc_heap_new wo _) ((Below.heap_alloc _ _ _ (by omega)).trans hat.m1)
      have hf1 : Fence.wide.fn 12 := trivial
      have hf2 : Fence.wide.fn 13 := trivial
      gi_wp2_with (first
        | (gi_at_call 13; refine cK.mono ?_; rintro e w' ⟨rfl, rfl⟩)
        | (gi_at_call 12; refine cS.mono ?_; rintro e w1 ⟨rfl, hb⟩))
      refine wpIn_loop_rounds 1 ?_
      rw [roundsIn_succ]
      have hb1 : ∀ k o, k < wo.heap.size → wo.heap[k]? = some o → w1.heap[k]? = some o := fun k o hk h => (hb.block k (by simp; omega)).trans (alloc_old h)
      have hS4 := hb1 _ _ hsz hat.sc
      have hS0 := hb1 _ _ (by omega) hat.res
      have d0 : w1.cell? ⟨w.heap.size + 1 + 1 + 1 + 1, 0, none⟩ = some (.int .i64 n) := cell_of hS4 rfl
      have d1 : w1.cell? ⟨w.heap.size + 1 + 1 + 1 + 1, 1, none⟩ = some (.map (some (w.heap.size + 1))) := cell_of hS4 rfl
      have d2 : w1.cell? ⟨w.heap.size + 1 + 1 + 1 + 1, 2, none⟩ = some (.map (some (w.heap.size + 1 + 1))) := cell_of hS4 rfl
      have d3 : w1.cell? ⟨w.heap.size + 1 + 1 + 1 + 1, 3, none⟩ = some (.map (some (w.heap.size + 1 + 1 + 1))) := cell_of hS4 rfl
      have e0 : w1.cell? ⟨w.heap.size, 0, none⟩ = some (.int .i64 0) := cell_of hS0 rfl
      have e1 : w1.cell? ⟨w.heap.size, 1, none⟩ = some (.map none) := cell_of hS0 rfl
      have e2 : w1.cell? ⟨w.heap.size, 2, none⟩ = some (.map none) := cell_of hS0 rfl
      have e3 : w1.cell? ⟨w.heap.size, 3, none⟩ = some (.map none) := cell_of hS0 rfl
      have z0 : w1.frozen? ⟨w.heap.size, 0, none⟩ = false := frozen_of hS0
      have z1 : w1.frozen? ⟨w.heap.size, 1, none⟩ = false := frozen_of hS0
      have z2 : w1.frozen? ⟨w.heap.size, 2, none⟩ = false := frozen_of hS0
      have z3 : w1.frozen? ⟨w.heap.size, 3, none⟩ = false := frozen_of hS0
      have Hb1 : Hid _ := hb1
      have HS4 : Hid _ := hS4
      have HS0 : Hid _ := hS0
      clear hb1 hS4 hS0 cK cS hd
      gi_wp2
      obtain ⟨Wf, hWf⟩ : ∃ Wf, (((w1.setCell ⟨w.heap.size, 0, none⟩ (.int .i64 n)).setCell ⟨w.heap.size, 1, none⟩ (.map (some (w.heap.size + 1)))).setCell ⟨w.heap.size, 2, none⟩ (.map (some (w.heap.size + 1 + 1)))).setCell ⟨w.heap.size, 3, none⟩ (.map (some (w.heap.size + 1 + 1 + 1))) = Wf := ⟨_, rfl⟩
      rw [hWf]
      have r0 : Wf.heap[w.heap.size]? = some (.cells #[.int .i64 n, .map (some (w.heap.size + 1)), .map (some (w.heap.size + 1 + 1)), .map (some (w.heap.size + 1 + 1 + 1))] 54) := by
        rw [← hWf]
        exact heap_setCell_same _ _ 3 _ _ _ (heap_setCell_same _ _ 2 _ _ _ (heap_setCell_same _ _ 1 _ _ _ (heap_setCell_same _ _ 0 _ _ _ HS0)))
      have ro : ∀ k, k ≠ w.heap.size → Wf.heap[k]? = w1.heap[k]? := by
        intro k hk
        rw [← hWf, heap_setCell_other _ _ _ _ hk, heap_setCell_other _ _ _ _ hk, heap_setCell_other _ _ _ _ hk, heap_setCell_other _ _ _ _ hk]
      have hB1 : Below w.heap.size w w1 := (hat.below.alloc hat.below.size _).trans (hb.mono (by simp; omega))
      have hBf : Below w.heap.size w Wf := by
        rw [← hWf]
        exact (((hB1.setCell (Nat.le_refl _) _).setCell (Nat.le_refl _) _).setCell (Nat.le_refl _) _).setCell (Nat.le_refl _) _
      have hsf : w.heap.size + 1 + 1 + 1 + 1 < Wf.heap.size := by
        have := hb.size; rw [← hWf]; simp at this ⊢; omega
      refine leavesM (w.heap.size + 1 + 1 + 1 + 1) ds Wf ?_ hat.nodup (by omega) ?_
      · intro D hD
        obtain ⟨h1, h2⟩ := hat.marks D hD
        exact ⟨by omega, (ro D (by omega)).trans (Hb1 D _ (Array.getElem?_eq_some_iff.1 h2).1 h2)⟩
      · intro W' hW'
        have same : ∀ k o, k < w.heap.size + 1 + 1 + 1 + 1 → k ≠ w.heap.size → wo.heap[k]? = some o → W'.heap[k]? = some o := fun k o h1 h2 h3 =>
          (hW'.block k h1).trans ((ro k h2).trans (Hb1 k o (by omega) h3))
        refine ⟨_, results_cell_row rfl _ W' w.heap.size 54 _ (0, 0) _ rfl ((hW'.block _ (by omega)).trans r0) Ybaf.underlying54 rfl (by kernel_rfl), _, _, _, rfl, same _ _ (by omega) (by omega) hat.m1, same _ _ (by omega) (by omega) hat.m2, ?_, hBf.trans (hW'.mono (by omega))⟩
        obtain ⟨es, ck, h1, h2⟩ := hat.cut
        rw [List.take_length] at h2
        exact ⟨es, ck, same _ _ (by omega) (by omega) h1, h2⟩
end Go.Proofs.YbulkbczoFmt
