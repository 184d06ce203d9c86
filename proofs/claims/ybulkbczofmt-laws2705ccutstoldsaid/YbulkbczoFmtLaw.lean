/-
  LawS2705CCuts walked.
-/
import Derived.Test.YbulkbczoFmtScript
namespace Go.Proofs.YbulkbczoFmt
open Go.RowKit

/-- One of the law's parts as it lies: round, span, the nodes' slice, its bytes. -/
structure Part where
  r : Nat
  s : Nat
  no : Option Addr
  nc : Nat
  xs : List Nat

theorem add_block (a : Addr) (k : Nat) : (a.add k).block = a.block := by unfold Addr.add; split <;> rfl

structure PartAt (w : World) (o : Option Addr) (i : Nat) (q : Part) : Prop where
  cells : ∃ a, o = some a ∧ a.block < w.heap.size ∧ w.cell? (a.add (i * 3)) = some (.int .u8 q.r) ∧ w.cell? ⟨(a.add (i * 3)).block, (a.add (i * 3)).off + 1, none⟩ = some (.int .u8 q.s) ∧ w.cell? ⟨(a.add (i * 3)).block, (a.add (i * 3)).off + 2, none⟩ = some (.slice q.no q.xs.length q.nc)
  r : q.r < 256
  s : q.s < 256
  xs : ∀ k (h : k < q.xs.length), q.xs[k] < 256 ∧ ∃ a, q.no = some a ∧ a.block < w.heap.size ∧ w.cell? (a.add k) = some (.int .u8 q.xs[k])
  lim : q.xs.length ≤ maxLen

theorem PartAt.below {w w' : World} {o : Option Addr} {i : Nat} {q : Part} (h : PartAt w o i q) (hB : Below w.heap.size w w') : PartAt w' o i q := by
  obtain ⟨⟨a, h1, h2, h3, h4, h5⟩, hr, hs, hx, hl⟩ := h
  have hb := hB.size
  refine ⟨⟨a, h1, by omega, (hB.cell (by rw [add_block]; exact h2)).trans h3, (hB.cell (by show (a.add _).block < _; rw [add_block]; exact h2)).trans h4, (hB.cell (by show (a.add _).block < _; rw [add_block]; exact h2)).trans h5⟩, hr, hs, fun k hk => ?_, hl⟩
  obtain ⟨e, b, h6, h7, h8⟩ := hx k hk
  exact ⟨e, b, h6, by omega, (hB.cell (by rw [add_block]; exact h7)).trans h8⟩

theorem make_any (t e : TypeId) (z : Value) (size bytes : Nat) (ht : Ybaf.prog.underlying t = some (.slice e)) (hinfo : (Ybaf.prog.info? e).map (fun i => (i.zero, i.size, i.bytes)) = some (some z, size, bytes)) (n : Nat) (hn : n ≤ 1024) (hb : bytes ≤ 1000) :
    ∃ cur : Array Value, cur.size = n * size ∧ ∀ W, (Instr.makeSlice t (.int .i64 (n : Int)) (.int .i64 (n : Int))).run Ybaf.prog W = .ok (.slice (some ⟨W.heap.size, 0, none⟩) n n) (W.alloc (.cells cur e)) := by
  obtain ⟨i, hi, hzz⟩ := Option.map_eq_some_iff.1 hinfo
  simp only [Prod.mk.injEq] at hzz
  obtain ⟨hz, hs, hbb⟩ := hzz
  refine ⟨madeCells z.cells (n * size), size_madeCells _ _, fun W => ?_⟩
  have hbytes : (i.bytes : Int) * (n : Int) ≤ 281474976710656 := by
    rw [hbb]
    have : bytes * n ≤ 1000 * 1024 := Nat.mul_le_mul hb hn
    have h2 : ((bytes * n : Nat) : Int) ≤ 281474976710656 := by omega
    rwa [Int.natCast_mul] at h2
  have hr := run_make (P := Ybaf.prog) W t e i z ht hi hz .i64 .i64 n n (by omega) (Int.le_refl _) hbytes (by omega)
  simp only [Int.toNat_natCast, hs] at hr
  exact hr

theorem make23 (n : Nat) (hn : n ≤ 1024) : ∃ cur : Array Value, cur.size = n * 11 ∧ ∀ W, (Instr.makeSlice 23 (.int .i64 (n : Int)) (.int .i64 (n : Int))).run Ybaf.prog W = .ok (.slice (some ⟨W.heap.size, 0, none⟩) n n) (W.alloc (.cells cur 36)) :=
  make_any 23 36 (.agg #[.int .i64 0, .pointer none, .int .i64 0, .string ⟨#[]⟩, .int .i64 0, .int .u32 0, .map none, .slice none 0 0, .pointer none, .int .i64 0, .slice none 0 0]) 11 128 (by kernel_rfl) (by kernel_rfl) n hn (by omega)
theorem make64 (n : Nat) (hn : n ≤ 1024) : ∃ cur : Array Value, cur.size = n * 1 ∧ ∀ W, (Instr.makeSlice 64 (.int .i64 (n : Int)) (.int .i64 (n : Int))).run Ybaf.prog W = .ok (.slice (some ⟨W.heap.size, 0, none⟩) n n) (W.alloc (.cells cur 29)) :=
  make_any 64 29 (.int .u32 0) 1 4 (by kernel_rfl) (by kernel_rfl) n hn (by omega)
theorem make33 (n : Nat) (hn : n ≤ 1024) : ∃ cur : Array Value, cur.size = n * 1 ∧ ∀ W, (Instr.makeSlice 33 (.int .i64 (n : Int)) (.int .i64 (n : Int))).run Ybaf.prog W = .ok (.slice (some ⟨W.heap.size, 0, none⟩) n n) (W.alloc (.cells cur 3)) :=
  make_any 33 3 (.int .i64 0) 1 8 (by kernel_rfl) (by kernel_rfl) n hn (by omega)

/-- The faults and their bits, so far. -/
structure BuildAt (g n L : Nat) (w2 wr : World) (fl : List Flt) : Prop where
  f : ∃ c1, wr.heap[g]? = some (.cells c1 36) ∧ c1.size = L * 11 ∧ ∀ j (h : j < fl.length) q, q < 11 → c1[j * 11 + q]? = (faultCells fl[j].r fl[j].s (nodesV fl[j]))[q]?
  b : ∃ c2, wr.heap[g + 1]? = some (.cells c2 29) ∧ c2.size = L ∧ ∀ j (h : j < fl.length), c2[j]? = some (.int .u32 (bitsOf fl[j].ids))
  flt : ∀ j (h : j < fl.length), fl[j].r < 10 ∧ fl[j].s < 4 ∧ fl[j].ids.length ≤ 1024 ∧ g + 1 < fl[j].nb ∧ (∀ k ∈ fl[j].ids, k < n) ∧ ∃ nc, wr.heap[fl[j].nb]? = some (.cells nc 3) ∧ ∀ k (h' : k < fl[j].ids.length), nc[k]? = some (.int .i64 ((fl[j].ids[k] : Int) + 1))
  below : Below g w2 wr

/-- A row of cells with a stretch laid over it. -/
def putRow (cs : Array Value) : Nat → List Value → Array Value
  | _, [] => cs
  | o, v :: r => putRow (cs.setIfInBounds o v) (o + 1) r
theorem size_putRow : ∀ (vs : List Value) (cs : Array Value) (o : Nat), (putRow cs o vs).size = cs.size
  | [], _, _ => rfl
  | v :: r, cs, o => by rw [putRow, size_putRow r]; simp
theorem putRow_out : ∀ (vs : List Value) (cs : Array Value) (o k : Nat), (k < o ∨ o + vs.length ≤ k) → (putRow cs o vs)[k]? = cs[k]?
  | [], _, _, _, _ => rfl
  | v :: r, cs, o, k, h => by
    simp only [List.length_cons] at h
    rw [putRow, putRow_out r _ (o + 1) k (by omega), Array.getElem?_setIfInBounds_ne (by omega)]
theorem putRow_in : ∀ (vs : List Value) (cs : Array Value) (o j : Nat), o + vs.length ≤ cs.size → j < vs.length → (putRow cs o vs)[o + j]? = vs[j]?
  | [], _, _, _, _, h => absurd h (by simp)
  | v :: r, cs, o, 0, h, _ => by
    simp only [List.length_cons] at h
    rw [putRow, putRow_out r _ (o + 1) (o + 0) (by omega)]
    simp only [Nat.add_zero, List.getElem?_cons_zero]
    exact Array.getElem?_setIfInBounds_self_of_lt (by omega)
  | v :: r, cs, o, j + 1, h, hj => by
    simp only [List.length_cons] at h hj
    rw [putRow, show o + (j + 1) = (o + 1) + j by omega, putRow_in r _ (o + 1) j (by simp; omega) (by omega)]
    simp
theorem heap_setCells_same (g : Nat) (t : TypeId) : ∀ (vs : List Value) (W : World) (cs : Array Value) (o : Nat), W.heap[g]? = some (.cells cs t (0, 0)) → (W.setCells g o vs).heap[g]? = some (.cells (putRow cs o vs) t (0, 0))
  | [], _, _, _, h => h
  | v :: r, W, cs, o, h => heap_setCells_same g t r (W.setCell ⟨g, o, none⟩ v) _ (o + 1) (heap_setCell_same W g o cs t v h)
theorem heap_setCells_other (g k : Nat) (hk : k ≠ g) : ∀ (vs : List Value) (W : World) (o : Nat), (W.setCells g o vs).heap[k]? = W.heap[k]?
  | [], _, _ => rfl
  | v :: r, W, o => by rw [World.setCells, heap_setCells_other g k hk r (W.setCell ⟨g, o, none⟩ v), heap_setCell_other _ _ _ _ hk]
theorem below_setCells {B g : Nat} {A : World} (hg : B ≤ g) : ∀ (vs : List Value) (W : World) (o : Nat), Below B A W → Below B A (W.setCells g o vs)
  | [], _, _, h => h
  | v :: r, W, o, h => below_setCells hg r (W.setCell ⟨g, o, none⟩ v) (o + 1) (h.setCell hg v)

theorem build_step {g n L : Nat} {w2 w3 wr : World} {fl : List Flt} (h : BuildAt g n L w2 w3 fl) (hlt : fl.length < L) (hg : g + 1 < w3.heap.size) (hg2 : g = w2.heap.size) (hB : Below w3.heap.size w3 wr) (f : Flt) (hr : f.r < 10) (hs : f.s < 4) (hl : f.ids.length ≤ 1024) (hnb : w3.heap.size < f.nb)
    (hid : ∀ k ∈ f.ids, k < n) (hnc : ∃ nc, wr.heap[f.nb]? = some (.cells nc 3) ∧ ∀ k (h' : k < f.ids.length), nc[k]? = some (.int .i64 ((f.ids[k] : Int) + 1))) :
    BuildAt g n L w2 ((wr.setCell ⟨g + 1, fl.length, none⟩ (.int .u32 (bitsOf f.ids))).setCells g (fl.length * 11) (faultCells f.r f.s (nodesV f)).toList) (fl ++ [f]) := by
  obtain ⟨c1, hc1, hc1s, hc1f⟩ := h.f
  obtain ⟨c2, hc2, hc2s, hc2f⟩ := h.b
  have hc1 := (hB.block g (by omega)).trans hc1
  have hc2 := (hB.block (g + 1) hg).trans hc2
  have hlen : (faultCells f.r f.s (nodesV f)).toList.length = 11 := rfl
  refine ⟨⟨putRow c1 (fl.length * 11) (faultCells f.r f.s (nodesV f)).toList, heap_setCells_same g 36 _ _ _ _ ((heap_setCell_other _ _ _ _ (show g ≠ g + 1 by omega)).trans hc1), (size_putRow _ _ _).trans hc1s, ?_⟩,
    ⟨c2.setIfInBounds fl.length (.int .u32 (bitsOf f.ids)), (heap_setCells_other _ _ (by omega) _ _ _).trans (heap_setCell_same _ _ _ _ _ _ hc2), by simpa using hc2s, ?_⟩, ?_, ?_⟩
  · intro j hj q hq
    simp only [List.length_append, List.length_cons, List.length_nil] at hj
    by_cases e : j = fl.length
    · subst e
      rw [putRow_in _ _ _ q (by rw [hlen, hc1s]; omega) (by rw [hlen]; exact hq)]
      simp
    · rw [putRow_out _ _ _ _ (by omega), List.getElem_append_left (by omega)]
      exact hc1f j (by omega) q hq
  · intro j hj
    simp only [List.length_append, List.length_cons, List.length_nil] at hj
    by_cases e : j = fl.length
    · subst e
      rw [Array.getElem?_setIfInBounds_self_of_lt (by omega)]
      simp
    · rw [Array.getElem?_setIfInBounds_ne (Ne.symm e), List.getElem_append_left (by omega)]
      exact hc2f j (by omega)
  · intro j hj
    have hj' := hj
    simp only [List.length_append, List.length_cons, List.length_nil] at hj'
    have keep : ∀ k, g + 1 < k → ((wr.setCell ⟨g + 1, fl.length, none⟩ (.int .u32 (bitsOf f.ids))).setCells g (fl.length * 11) (faultCells f.r f.s (nodesV f)).toList).heap[k]? = wr.heap[k]? := fun k hk => by
      rw [heap_setCells_other _ _ (by omega), heap_setCell_other _ _ _ _ (show k ≠ g + 1 by omega)]
    by_cases e : j = fl.length
    · subst e
      simp only [List.getElem_append_right (Nat.le_refl _), Nat.sub_self, List.getElem_cons_zero]
      obtain ⟨nc, h1, h2⟩ := hnc
      exact ⟨hr, hs, hl, by omega, hid, nc, (keep _ (by omega)).trans h1, h2⟩
    · have hjl : j < fl.length := by omega
      simp only [List.getElem_append_left hjl]
      obtain ⟨a1, a2, a3, a4, a5, nc, h1, h2⟩ := h.flt j hjl
      exact ⟨a1, a2, a3, a4, a5, nc, (keep _ a4).trans ((hB.block _ (Array.getElem?_eq_some_iff.1 h1).1).trans h1), h2⟩
  · exact below_setCells (Nat.le_refl _) _ _ _ ((h.below.trans (hB.mono (by omega))).setCell (by show g ≤ g + 1; omega) _)

theorem cell_eq {W : World} {b j : Nat} {cs : Array Value} {t : TypeId} {fr : Nat × Nat} (h : W.heap[b]? = some (.cells cs t fr)) : W.cell? ⟨b, j, none⟩ = cs[j]? := by
  simp [World.cell?, h]

theorem build_faults {g n L : Nat} {w2 wr : World} {fl : List Flt} (h : BuildAt g n L w2 wr fl) (hg : g + 1 < wr.heap.size) (o : Obj) : Hid (∀ i (hi : i < fl.length), FaultAt (wr.alloc o) g n i fl[i]) := by
  intro i hi
  obtain ⟨c1, hc1, hc1s, hc1f⟩ := h.f
  obtain ⟨a1, a2, a3, a4, a5, nc, h1, h2⟩ := h.flt i hi
  refine ⟨fun j hj => (cell_eq (alloc_old hc1)).trans (hc1f i hi j hj), by omega, by omega, a3, fun k hk => ⟨cell_of (alloc_old h1) (h2 k hk), a5 _ (List.getElem_mem hk)⟩, by simp; omega, .inr ?_⟩
  have := (Array.getElem?_eq_some_iff.1 h1).1
  simp; omega

theorem len50 {W : World} {m : Nat} (h : W.heap[m]? = some (.map #[] 0)) : (Builtin.len_ #[50] 3 #[.map (some m)]).run Ybaf.prog W = .ok (.int .i64 0) W := by
  simp [Builtin.len_, MapKept.run_getObj_map h, Result.andThen]
  rfl
theorem len51 {W : World} {m : Nat} (h : W.heap[m]? = some (.map #[] 0)) : (Builtin.len_ #[51] 3 #[.map (some m)]).run Ybaf.prog W = .ok (.int .i64 0) W := by
  simp [Builtin.len_, MapKept.run_getObj_map h, Result.andThen]
  rfl

/-- How many rounds are still to look at. -/
def leftR : Value → Nat
  | .int _ r => (15 - r).toNat
  | _ => 0

/-- The bits of the last partition that holds the round. -/
def hit (q : Int) (fs : List Flt) : Option Nat := fs.foldl (fun a f => if (f.r : Int) ≤ q ∧ q < (f.r : Int) + (f.s : Int) then some (bitsOf f.ids) else a) none
theorem hit_snoc (q : Int) (fs : List Flt) (i : Nat) (h : i < fs.length) : hit q (fs.take (i + 1)) = if (fs[i].r : Int) ≤ q ∧ q < (fs[i].r : Int) + (fs[i].s : Int) then some (bitsOf fs[i].ids) else hit q (fs.take i) := by
  unfold hit
  rw [List.take_succ_eq_append_getElem h, List.foldl_append]
  rfl
theorem cutF_hit (n : Nat) (q : Int) (fs : List Flt) : cutF n fs q = (hit q fs).map (fun b => .agg #[.int .i64 n, .int .u32 b]) := by
  unfold cutF hit
  have gen : ∀ (l : List Flt) (g : Int → Option Value) (a : Option Nat), g q = a.map (fun b => .agg #[.int .i64 n, .int .u32 b]) →
      l.foldl (fun g f => fun q => if (f.r : Int) ≤ q ∧ q < (f.r : Int) + (f.s : Int) then some (.agg #[.int .i64 n, .int .u32 (bitsOf f.ids)]) else g q) g q = (l.foldl (fun a f => if (f.r : Int) ≤ q ∧ q < (f.r : Int) + (f.s : Int) then some (bitsOf f.ids) else a) a).map (fun b => .agg #[.int .i64 n, .int .u32 b]) := by
    intro l
    induction l with
    | nil => intro g a h; exact h
    | cons f l ih =>
      intro g a h
      refine ih _ _ ?_
      by_cases hc : (f.r : Int) ≤ q ∧ q < (f.r : Int) + (f.s : Int)
      · simp only [if_pos hc, Option.map_some]
      · simp only [if_neg hc]; exact h
  exact gen fs _ none rfl
theorem hit_lt (n : Nat) (q : Int) (fs : List Flt) (h : ∀ k (hk : k < fs.length), bitsOf fs[k].ids < 2 ^ n) : (hit q fs).getD 0 < 2 ^ n := by
  unfold hit
  have gen : ∀ (l : List Flt) (a : Option Nat), a.getD 0 < 2 ^ n → (∀ f ∈ l, bitsOf f.ids < 2 ^ n) → (l.foldl (fun a f => if (f.r : Int) ≤ q ∧ q < (f.r : Int) + (f.s : Int) then some (bitsOf f.ids) else a) a).getD 0 < 2 ^ n := by
    intro l
    induction l with
    | nil => intro a h _; exact h
    | cons f l ih =>
      intro a h hl
      refine ih _ ?_ (fun f' hf' => hl f' (List.mem_cons_of_mem _ hf'))
      simp only
      split
      · exact hl f (List.mem_cons_self ..)
      · exact h
  refine gen fs none (Nat.pos_of_ne_zero (by simp)) (fun f hf => ?_)
  obtain ⟨k, hk, rfl⟩ := List.getElem_of_mem hf
  exact h k hk

set_option maxRecDepth 100000 in
set_option maxHeartbeats 2000000 in
theorem cuts (v : Nat) (hv : v < 256) (o : Option Addr) (cap : Nat) (ps : List Part) (w : World) (hL : ps.length ≤ maxLen) (hp : Hid (∀ i (h : i < ps.length), PartAt w o i ps[i])) :
    Calls Ybaf.prog 4 #[.int .u8 v, .slice o ps.length cap] w fun e w' => e = .returned (.bool true) ∧ Below w.heap.size w w' := by
  unfold maxLen at hL
  go_enter Ybaf.func4, Ybaf.ntmps4
  by_cases hbig : 1024 < ps.length
  · have hd : decide ((1024 : Int) < (ps.length : Int)) = true := decide_eq_true (by omega)
    go_wp2
    go_ret
    exact ⟨rfl, Below.refl _ _⟩
  have hd : decide ((1024 : Int) < (ps.length : Int)) = false := decide_eq_false (by omega)
  go_wp2
  clear hd
  go_loopw [30] (fun x wr => ∃ i : Nat, x = .int .i64 i ∧ i ≤ ps.length ∧ Below w.heap.size w wr ∧ ∀ j (h : j < ps.length), j < i → ps[j].xs.length ≤ 1024)
    (fun x _ => leftTo ps.length x)
  case atStart => exact ⟨0, rfl, Nat.zero_le _, Below.refl _ _, fun j _ h => absurd h (by omega)⟩
  case round =>
    obtain ⟨i, rfl, hi, hB, hsm⟩ := hrel
    have HB : Hid _ := hB
    have HSM : Hid _ := hsm
    clear hB hsm
    by_cases hlt : i < ps.length
    · have hd : decide ((i : Int) < (ps.length : Int)) = true := decide_eq_true (by omega)
      have hwi : IntKind.i64.wrap ((i : Int) + 1) = (i : Int) + 1 := IntWalk.i64_in _ (by omega)
      have hP := (hp i hlt).below HB
      have HP : Hid _ := hP
      obtain ⟨a, rfl, hab, k0, k1, k2⟩ := hP.cells
      have hlim := hP.lim
      unfold maxLen at hlim
      clear hP
      by_cases hxl : 1024 < ps[i].xs.length
      · have hd2 : decide ((1024 : Int) < (ps[i].xs.length : Int)) = true := decide_eq_true (by omega)
        go_wp2
        go_ret
        exact ⟨rfl, HB.alloc HB.size _⟩
      · have hd2 : decide ((1024 : Int) < (ps[i].xs.length : Int)) = false := decide_eq_false (by omega)
        go_wp2
        go_roundw
        case rel => exact ⟨i + 1, by simp, hlt, HB.alloc HB.size _, fun j hj hji => by
          by_cases e : j = i
          · subst e; omega
          · exact HSM j hj (by omega)⟩
        case measure => simp [leftTo]; omega
    · have hd : decide ((i : Int) < (ps.length : Int)) = false := decide_eq_false (by omega)
      obtain rfl : i = ps.length := by omega
      have hvw : IntKind.i64.wrap ((v : Int) % 32) = (v : Int) % 32 := IntWalk.i64_in _ (by omega)
      obtain ⟨c1, hc1, hmk1⟩ := make23 ps.length (by omega)
      obtain ⟨c2, hc2, hmk2⟩ := make64 ps.length (by omega)
      have hvn : (1 + (v : Int) % 32) = ((1 + v % 32 : Nat) : Int) := by omega
      generalize hN : 1 + v % 32 = N at hvn
      go_wp2
      clear hmk1 hmk2 hvn hvw hd
      obtain ⟨w2, hw2⟩ : ∃ w2, w2 = wr := ⟨_, rfl⟩
      subst hw2
      have hN1 : 1 ≤ N := by omega
      have hN2 : N ≤ 32 := by omega
      have HST : Hid (BuildAt w2.heap.size N ps.length w2 ((w2.alloc (.cells c1 36)).alloc (.cells c2 29)) []) := by
        refine ⟨⟨c1, alloc_old (alloc_new' rfl), hc1, fun j h => absurd h (by simp)⟩, ⟨c2, alloc_new' (by simp), by simpa using hc2, fun j h => absurd h (by simp)⟩, fun j h => absurd h (by simp), ((Below.refl _ w2).alloc (Nat.le_refl _) _).alloc (by simp) _⟩
      clear hc1 hc2
      go_loopw [51] (fun x wr => ∃ fl : List Flt, x = .int .i64 fl.length ∧ fl.length ≤ ps.length ∧ BuildAt w2.heap.size N ps.length w2 wr fl)
        (fun x _ => leftTo ps.length x)
      case atStart => exact ⟨[], rfl, Nat.zero_le _, HST⟩
      case round =>
        obtain ⟨fl, rfl, hfl, hat⟩ := hrel
        have HAT : Hid _ := hat
        have hsz2 : w2.heap.size + 1 < wr.heap.size := by obtain ⟨c2, h, _⟩ := hat.b; exact (Array.getElem?_eq_some_iff.1 h).1
        clear hat
        by_cases hlt : fl.length < ps.length
        · have hd : decide ((fl.length : Int) < (ps.length : Int)) = true := decide_eq_true (by omega)
          have hwi : IntKind.i64.wrap ((fl.length : Int) + 1) = (fl.length : Int) + 1 := IntWalk.i64_in _ (by omega)
          have hP := (hp _ hlt).below (HB.trans (HAT.below.mono HB.size))
          have hxs : ps[fl.length].xs.length ≤ 1024 := HSM _ hlt hlt
          generalize ps[fl.length] = q at hP hxs
          have HP : Hid _ := hP
          obtain ⟨a, rfl, hab, k0, k1, k2⟩ := hP.cells
          have hqr := hP.r
          have hqs := hP.s
          clear hP
          obtain ⟨c3, hc3, hmk3⟩ := make33 q.xs.length hxs
          go_wp2
          obtain ⟨w3, hw3⟩ : ∃ w3, w3 = wr := ⟨_, rfl⟩
          subst hw3
          clear hmk3 hd k0 k1 k2
          have HC3 : Hid (((w3.alloc (.cells #[.int .u8 q.r, .int .u8 q.s, .slice q.no q.xs.length q.nc] 63)).alloc (.cells c3 3)).heap[w3.heap.size + 1]? = some (.cells c3 3)) := alloc_new' (by simp)
          go_loopw [13, 63] (fun b x wq => ∃ k : Nat, x = .int .i64 k ∧ b = .int .u32 (bitsOf ((q.xs.map (· % N)).take k)) ∧ k ≤ q.xs.length ∧
              (∃ nc, wq.heap[w3.heap.size + 1]? = some (.cells nc 3) ∧ nc.size = q.xs.length ∧ ∀ j (h : j < q.xs.length), j < k → nc[j]? = some (.int .i64 (((q.xs[j] % N : Nat) : Int) + 1))) ∧
              Below (w3.heap.size + 1) (w3.alloc (.cells #[.int .u8 q.r, .int .u8 q.s, .slice q.no q.xs.length q.nc] 63)) wq)
            (fun _ x _ => leftTo q.xs.length x)
          case atStart => exact ⟨0, rfl, rfl, Nat.zero_le _, ⟨c3, HC3, by simpa using hc3, fun j _ h => absurd h (by omega)⟩, (Below.refl _ _).alloc (by simp) _⟩
          case round =>
            obtain ⟨k, rfl, rfl, hk, ⟨nc, hnc, hncs, hncf⟩, hqb⟩ := hrel
            have HQB : Hid _ := hqb
            have HNC : Hid _ := hnc
            have HNF : Hid _ := hncf
            have hs3 : w3.heap.size + 1 < wr.heap.size := (Array.getElem?_eq_some_iff.1 hnc).1
            clear hqb hnc hncf
            by_cases hkl : k < q.xs.length
            · have hd : decide ((k : Int) < (q.xs.length : Int)) = true := decide_eq_true (by omega)
              have hwk : IntKind.i64.wrap ((k : Int) + 1) = (k : Int) + 1 := IntWalk.i64_in _ (by omega)
              obtain ⟨hx, b, hno, hbl, hbc⟩ := HP.xs k hkl
              have hB3 : Below w3.heap.size w3 wr := ((Below.refl _ w3).alloc (Nat.le_refl _) _).trans (HQB.mono (by omega))
              have hbc' : wr.cell? (b.add k) = some (.int .u8 q.xs[k]) := (hB3.cell (by rw [add_block]; exact hbl)).trans hbc
              clear hbc hB3
              generalize hxk : q.xs[k] = x at hx hbc'
              have hmod : x % N < N := Nat.mod_lt _ (by omega)
              have hrem : Int.tmod (x : Int) (N : Int) = ((x % N : Nat) : Int) := rfl
              have hrem2 : ((x : Int) % (N : Int)) = ((x % N : Nat) : Int) := rfl
              generalize hyd : x % N = y at hmod hrem hrem2
              have HY : Hid (q.xs[k] % N = y) := by show _ = y; rw [hxk]; exact hyd
              clear hyd
              have hnz : ¬ ((N : Int) = 0) := by omega
              have hcn : wr.cell? ⟨w3.heap.size + 1, k, none⟩ = some nc[k] := cell_of HNC (by simp [hncs, hkl])
              have hfn : wr.frozen? ⟨w3.heap.size + 1, k, none⟩ = false := frozen_of HNC
              rw [hno]
              go_wp2
              go_roundw
              case rel =>
                have hY : q.xs[k] % N = y := HY
                have hml : k < (q.xs.map (· % N)).length := by simpa using hkl
                have hmk : (q.xs.map (· % N))[k] = y := by rw [List.getElem_map]; exact hY
                refine ⟨k + 1, rfl, ?_, hkl, ⟨nc.setIfInBounds k (.int .i64 (1 + (y : Int))), heap_setCell_same _ _ _ _ _ _ HNC, by simp [hncs], ?_⟩, ?_⟩
                · rw [bitsOf_snoc _ k hml, hmk, shl_val y (by omega)]
                  have hlt32 : bitsOf ((q.xs.map (· % N)).take k) < 2 ^ N := bitsOf_lt N _ (fun j hj => by
                    obtain ⟨z, -, rfl⟩ := List.mem_map.1 (List.mem_of_mem_take hj)
                    exact Nat.mod_lt _ (by omega))
                  have hp32 := pow_le32 N hN2
                  have ho := or_val (bitsOf ((q.xs.map (· % N)).take k)) y (by omega) (by omega)
                  rw [← ho, Int.natCast_pow]; rfl
                · intro j hj hjk
                  by_cases e : j = k
                  · subst e
                    rw [hY, Array.getElem?_setIfInBounds_self_of_lt (by omega), Int.add_comm]
                  · rw [Array.getElem?_setIfInBounds_ne (Ne.symm e)]
                    exact HNF j hj (by omega)
                · have HQB' := HQB
                  rw [hno] at HQB'
                  exact Below.setCell HQB' (Nat.le_refl _) _
              case measure => simp [leftTo]; omega
            · have hd : decide ((k : Int) < (q.xs.length : Int)) = false := decide_eq_false (by omega)
              obtain rfl : k = q.xs.length := by omega
              have hB3 : Below w3.heap.size w3 wr := ((Below.refl _ w3).alloc (Nat.le_refl _) _).trans (HQB.mono (by omega))
              obtain ⟨d1, hd1, hd1s, hd1f⟩ := HAT.f
              obtain ⟨d2, hd2, hd2s, hd2f⟩ := HAT.b
              have hd1 := (hB3.block _ (by omega)).trans hd1
              have hd2 := (hB3.block _ (by omega)).trans hd2
              have hP3 : wr.heap[w3.heap.size]? = some (.cells #[.int .u8 q.r, .int .u8 q.s, .slice q.no q.xs.length q.nc] 63) := (HQB.block _ (by omega)).trans (World.alloc_heap_new w3 _)
              have i0 : fl.length * 11 + 10 < ps.length * 11 := by omega
              have y0 : wr.cell? ⟨w2.heap.size, fl.length * 11, none⟩ = some (d1[fl.length * 11]) := cell_of hd1 (by simp)
              have z0 : wr.frozen? ⟨w2.heap.size, fl.length * 11, none⟩ = false := frozen_of hd1
              have y1 : wr.cell? ⟨w2.heap.size, fl.length * 11 + 1, none⟩ = some (d1[fl.length * 11 + 1]) := cell_of hd1 (by simp)
              have z1 : wr.frozen? ⟨w2.heap.size, fl.length * 11 + 1, none⟩ = false := frozen_of hd1
              have y2 : wr.cell? ⟨w2.heap.size, fl.length * 11 + 2, none⟩ = some (d1[fl.length * 11 + 2]) := cell_of hd1 (by simp)
              have z2 : wr.frozen? ⟨w2.heap.size, fl.length * 11 + 2, none⟩ = false := frozen_of hd1
              have y3 : wr.cell? ⟨w2.heap.size, fl.length * 11 + 3, none⟩ = some (d1[fl.length * 11 + 3]) := cell_of hd1 (by simp)
              have z3 : wr.frozen? ⟨w2.heap.size, fl.length * 11 + 3, none⟩ = false := frozen_of hd1
              have y4 : wr.cell? ⟨w2.heap.size, fl.length * 11 + 4, none⟩ = some (d1[fl.length * 11 + 4]) := cell_of hd1 (by simp)
              have z4 : wr.frozen? ⟨w2.heap.size, fl.length * 11 + 4, none⟩ = false := frozen_of hd1
              have y5 : wr.cell? ⟨w2.heap.size, fl.length * 11 + 5, none⟩ = some (d1[fl.length * 11 + 5]) := cell_of hd1 (by simp)
              have z5 : wr.frozen? ⟨w2.heap.size, fl.length * 11 + 5, none⟩ = false := frozen_of hd1
              have y6 : wr.cell? ⟨w2.heap.size, fl.length * 11 + 6, none⟩ = some (d1[fl.length * 11 + 6]) := cell_of hd1 (by simp)
              have z6 : wr.frozen? ⟨w2.heap.size, fl.length * 11 + 6, none⟩ = false := frozen_of hd1
              have y7 : wr.cell? ⟨w2.heap.size, fl.length * 11 + 7, none⟩ = some (d1[fl.length * 11 + 7]) := cell_of hd1 (by simp)
              have z7 : wr.frozen? ⟨w2.heap.size, fl.length * 11 + 7, none⟩ = false := frozen_of hd1
              have y8 : wr.cell? ⟨w2.heap.size, fl.length * 11 + 8, none⟩ = some (d1[fl.length * 11 + 8]) := cell_of hd1 (by simp)
              have z8 : wr.frozen? ⟨w2.heap.size, fl.length * 11 + 8, none⟩ = false := frozen_of hd1
              have y9 : wr.cell? ⟨w2.heap.size, fl.length * 11 + 9, none⟩ = some (d1[fl.length * 11 + 9]) := cell_of hd1 (by simp)
              have z9 : wr.frozen? ⟨w2.heap.size, fl.length * 11 + 9, none⟩ = false := frozen_of hd1
              have y10 : wr.cell? ⟨w2.heap.size, fl.length * 11 + 10, none⟩ = some (d1[fl.length * 11 + 10]) := cell_of hd1 (by simp)
              have z10 : wr.frozen? ⟨w2.heap.size, fl.length * 11 + 10, none⟩ = false := frozen_of hd1
              have x0 : wr.cell? ⟨w3.heap.size, 0, none⟩ = some (.int .u8 q.r) := cell_of hP3 rfl
              have x1 : wr.cell? ⟨w3.heap.size, 1, none⟩ = some (.int .u8 q.s) := cell_of hP3 rfl
              have v0 : wr.cell? ⟨w2.heap.size + 1, fl.length, none⟩ = some (d2[fl.length]) := cell_of hd2 (by simp)
              have v1 : wr.frozen? ⟨w2.heap.size + 1, fl.length, none⟩ = false := frozen_of hd2
              have n1 : w3.heap.size ≠ w2.heap.size + 1 := by omega
              have n2 : w3.heap.size ≠ w2.heap.size := by omega
              have n3 : w2.heap.size + 1 ≠ w3.heap.size := by omega
              have n4 : w2.heap.size ≠ w3.heap.size := by omega
              have HB3 : Hid _ := hB3
              have HD1 : Hid _ := hd1
              have HD2 : Hid _ := hd2
              have HD1F : Hid _ := hd1f
              have HD2F : Hid _ := hd2f
              clear hB3 hd1 hd2 hP3 hd1f hd2f
              go_wp2
              go_roundw
              case rel =>
                refine ⟨fl ++ [⟨q.r % 10, q.s % 4, w3.heap.size + 1, q.xs.map (· % N)⟩], by simp, by simp; omega, ?_⟩
                have hlm : (q.xs.map (· % N)).length = q.xs.length := by simp
                have hbs := build_step HAT hlt hsz2 rfl HB3 ⟨q.r % 10, q.s % 4, w3.heap.size + 1, q.xs.map (· % N)⟩ (Nat.mod_lt _ (by omega)) (Nat.mod_lt _ (by omega)) (by simpa using hxs) (Nat.lt_succ_self _)
                  (fun k hk => by obtain ⟨z, -, rfl⟩ := List.mem_map.1 hk; exact Nat.mod_lt _ (by omega)) ⟨nc, HNC, fun k hk => by
                    have hk' : k < q.xs.length := by simpa using hk
                    simp only [List.getElem_map]
                    exact HNF k hk' hk'⟩
                rw [List.take_of_length_le (by simp)]
                unfold nodesV at hbs
                simp only [hlm] at hbs
                exact hbs
              case measure => simp [leftTo]; omega
        · have hd : decide ((fl.length : Int) < (ps.length : Int)) = false := decide_eq_false (by omega)
          have hfl' : fl.length = ps.length := by omega
          have hcS : Calls Ybaf.prog 6 #[.pointer (some ⟨wr.heap.size, 0, none⟩)] (wr.alloc (.cells #[.string ⟨#[]⟩, .string ⟨#[]⟩, .int .i64 N, .int .i64 0, .slice none 0 0, .slice none 0 0, .int .i64 0, .int .i64 0, .slice none 0 0, .pointer none, .int .i64 0, .slice (some ⟨w2.heap.size, 0, none⟩) ps.length ps.length, .pointer none] 49)) _ :=
            (callsIn_wide (n := 10)).1 (script_in wr.heap.size w2.heap.size N fl _ hN1 hN2 (by omega) (cell_of (alloc_new' rfl) rfl) (by rw [hfl']; exact cell_of (alloc_new' rfl) rfl) (by simp) (build_faults HAT hsz2 _))
          go_wp2_with (go_at_call 6; refine hcS.mono ?_; rintro e w5 ⟨m1, m2, m3, rfl, hm1, hm2, hcut, hb5⟩
                       have HM1 : Hid _ := hm1
                       have HM2 : Hid _ := hm2
                       have HCUT : Hid _ := hcut
                       have HB5 : Hid _ := hb5
                       clear hm1 hm2 hcut hb5
                       have hl1 := len50 (W := w5.alloc (.cells #[.int .i64 N, .map (some m1), .map (some m2), .map (some m3)] 54)) (m := m1) (alloc_old HM1)
                       have hl2 := len51 (W := w5.alloc (.cells #[.int .i64 N, .map (some m1), .map (some m2), .map (some m3)] 54)) (m := m2) (alloc_old HM2))
          clear hl1 hl2 hcS
          obtain ⟨w6, hw6⟩ : ∃ w6, w5.alloc (.cells #[.int .i64 N, .map (some m1), .map (some m2), .map (some m3)] 54) = w6 := ⟨_, rfl⟩
          rw [hw6]
          have H6 : Hid (∀ (k : Nat) (x : Obj), w5.heap[k]? = some x → w6.heap[k]? = some x) := by intro k x h; rw [← hw6]; exact alloc_old h
          have HSV : Hid (w6.heap[w5.heap.size]? = some (.cells #[.int .i64 N, .map (some m1), .map (some m2), .map (some m3)] 54)) := by show _ = _; rw [← hw6]; exact World.alloc_heap_new w5 _
          have HCUT6 : Hid (CutMap w6 m3 (cutF N fl)) := by
            obtain ⟨es, ck, h1, h2⟩ := HCUT
            exact ⟨es, ck, H6 _ _ h1, h2⟩
          have hb5 := HB5.size
          simp only [World.size_alloc] at hb5
          have h56 : w6.heap.size = w5.heap.size + 1 := by rw [← hw6]; simp
          have HK : Hid (∀ (k : Nat) (x : Obj), wr.heap[k]? = some x → w6.heap[k]? = some x) := by
            intro k x h
            exact H6 k x ((HB5.block k (by have := (Array.getElem?_eq_some_iff.1 h).1; simp; omega)).trans (alloc_old h))
          have HBW6 : Hid (Below w.heap.size w w6) := by
            have h1 := HB.size
            have h2 := HAT.below.size
            have hA : Below w.heap.size w wr := HB.trans (HAT.below.mono h1)
            have hB : Below w.heap.size w w5 := (hA.alloc hA.size _).trans (HB5.mono (by simp; omega))
            show Below _ _ _
            rw [← hw6]; exact hB.alloc hB.size _
          have HROW : Hid (∀ k (h : k < fl.length), w6.cell? ⟨w2.heap.size, k * 11, none⟩ = some (.int .i64 fl[k].r) ∧ w6.cell? ⟨w2.heap.size, k * 11 + 9, none⟩ = some (.int .i64 fl[k].s) ∧ w6.cell? ⟨w2.heap.size + 1, k, none⟩ = some (.int .u32 (bitsOf fl[k].ids)) ∧ fl[k].r < 10 ∧ fl[k].s < 4 ∧ bitsOf fl[k].ids < 2 ^ N) := by
            obtain ⟨c1, hc1, hc1s, hc1f⟩ := HAT.f
            obtain ⟨c2, hc2, hc2s, hc2f⟩ := HAT.b
            intro k hk
            obtain ⟨a1, a2, a3, a4, a5, -⟩ := HAT.flt k hk
            exact ⟨cell_of (HK _ _ hc1) (hc1f k hk 0 (by omega)), cell_of (HK _ _ hc1) (hc1f k hk 9 (by omega)), cell_of (HK _ _ hc2) (hc2f k hk), a1, a2, bitsOf_lt N _ a5⟩
          have hg6 : w2.heap.size + 1 < w6.heap.size := by omega
          go_loopw [19] (fun x wq => ∃ r : Int, x = .int .i64 r ∧ -1 ≤ r ∧ r ≤ 15 ∧ Below w6.heap.size w6 wq)
            (fun x _ => leftR x)
          case atStart => exact ⟨-1, rfl, by omega, by omega, Below.refl _ _⟩
          case round =>
            obtain ⟨r, rfl, hr1, hr2, hqb⟩ := hrel
            have HQB : Hid _ := hqb
            have hq6 := hqb.size
            clear hqb
            by_cases hr14 : r ≤ 14
            · have hd : decide (r ≤ 14) = true := decide_eq_true hr14
              go_wp2
              clear hd
              go_loopw [20, 21, 124] (fun x20 x21 x wq => ∃ k : Nat, x = .int .i64 k ∧ k ≤ fl.length ∧ x20 = .bool (hit r (fl.take k)).isSome ∧ x21 = .int .u32 (((hit r (fl.take k)).getD 0 : Nat) : Int) ∧ Below w6.heap.size w6 wq)
                (fun _ _ x _ => leftTo ps.length x)
              case atStart => exact ⟨0, rfl, Nat.zero_le _, rfl, rfl, HQB⟩
              case round =>
                obtain ⟨k, rfl, hk, rfl, rfl, hqb⟩ := hrel
                have HQB' : Hid _ := hqb
                have hq6' := hqb.size
                clear hqb
                by_cases hkl : k < fl.length
                · have hd : decide ((k : Int) < (ps.length : Int)) = true := decide_eq_true (by omega)
                  have hwk : IntKind.i64.wrap ((k : Int) + 1) = (k : Int) + 1 := IntWalk.i64_in _ (by omega)
                  obtain ⟨e0, e9, eb, hfr, hfs, hbl⟩ := HROW k hkl
                  have f0 : wr.cell? ⟨w2.heap.size, k * 11, none⟩ = some (.int .i64 fl[k].r) := (HQB'.cell (p := ⟨w2.heap.size, k * 11, none⟩) (by show w2.heap.size < _; omega)).trans e0
                  have f9 : wr.cell? ⟨w2.heap.size, k * 11 + 9, none⟩ = some (.int .i64 fl[k].s) := (HQB'.cell (p := ⟨w2.heap.size, k * 11 + 9, none⟩) (by show w2.heap.size < _; omega)).trans e9
                  have fb : wr.cell? ⟨w2.heap.size + 1, k, none⟩ = some (.int .u32 (bitsOf fl[k].ids)) := (HQB'.cell (p := ⟨w2.heap.size + 1, k, none⟩) (by show w2.heap.size + 1 < _; omega)).trans eb
                  have HSN : Hid _ := hit_snoc r fl k hkl
                  clear e0 e9 eb
                  have hws : IntKind.i64.wrap ((fl[k].r : Int) + (fl[k].s : Int)) = (fl[k].r : Int) + (fl[k].s : Int) := IntWalk.i64_in _ (by omega)
                  generalize fl[k] = f at f0 f9 fb HSN hws hfr hfs hbl
                  have n1 : w2.heap.size < wr.heap.size := by omega
                  have n2 : w2.heap.size + 1 < wr.heap.size := by omega
                  by_cases c1 : (f.r : Int) ≤ r
                  · have d1 : decide ((f.r : Int) ≤ r) = true := decide_eq_true c1
                    by_cases c2 : r < (f.r : Int) + (f.s : Int)
                    · have d2 : decide (r < (f.r : Int) + (f.s : Int)) = true := decide_eq_true c2
                      go_wp2_with (go_quiet (fail))
                      go_roundw
                      case rel =>
                        have hs := HSN.out
                        rw [if_pos ⟨c1, c2⟩] at hs
                        exact ⟨k + 1, rfl, hkl, by rw [hs]; rfl, by rw [hs]; rfl, below_drewN HQB' _⟩
                      case measure => simp [leftTo]; omega
                    · have d2 : decide (r < (f.r : Int) + (f.s : Int)) = false := decide_eq_false c2
                      go_wp2_with (go_quiet (fail))
                      go_roundw
                      case rel =>
                        have hs := HSN.out
                        rw [if_neg (fun h => c2 h.2)] at hs
                        exact ⟨k + 1, rfl, hkl, by rw [hs], by rw [hs], below_drewN HQB' _⟩
                      case measure => simp [leftTo]; omega
                  · have d1 : decide ((f.r : Int) ≤ r) = false := decide_eq_false c1
                    go_wp2_with (go_quiet (fail))
                    go_roundw
                    case rel =>
                      have hs := HSN.out
                      rw [if_neg (fun h => c1 h.1)] at hs
                      exact ⟨k + 1, rfl, hkl, by rw [hs], by rw [hs], below_drewN HQB' _⟩
                    case measure => simp [leftTo]; omega
                · have hd : decide ((k : Int) < (ps.length : Int)) = false := decide_eq_false (by omega)
                  obtain rfl : k = fl.length := by omega
                  rw [List.take_length]
                  have HLT : Hid _ := hit_lt N r fl (fun k hk => (HROW k hk).2.2.2.2.2)
                  have hsv : wr.cell? ⟨w5.heap.size, 3, none⟩ = some (.map (some m3)) := cell_of ((HQB'.block _ (by omega)).trans HSV) rfl
                  have hcw : CutMap wr m3 (cutF N fl) := by
                    obtain ⟨es, ck, h1, h2⟩ := HCUT6
                    exact ⟨es, ck, (HQB'.block _ (Array.getElem?_eq_some_iff.1 h1).1).trans h1, h2⟩
                  have hlk := run_look hcw r
                  rw [cutF_hit] at hlk
                  have hwr : IntKind.i64.wrap (r + 1) = r + 1 := IntWalk.i64_in _ (by omega)
                  clear hcw
                  cases hh : hit r fl with
                  | none =>
                    rw [hh] at hlk
                    simp only [Option.map_none, Option.getD_none, Option.isSome_none] at hlk ⊢
                    go_wp2_with (go_quiet (fail))
                    go_roundw
                    case rel => exact ⟨r + 1, rfl, by omega, by omega, below_drewN (HQB'.alloc hq6' _) _⟩
                    case measure => simp [leftR]; omega
                  | some b =>
                    rw [hh] at hlk HLT
                    simp only [Option.map_some, Option.getD_some, Option.isSome_some] at hlk HLT ⊢
                    go_wp2
                    obtain ⟨w7, hw7⟩ : ∃ w7, wr.alloc (.cells #[.int .i64 N, .int .u32 b] 31) = w7 := ⟨_, rfl⟩
                    rw [hw7]
                    have HB7 : Hid (Below w6.heap.size w6 w7) := by show Below _ _ _; rw [← hw7]; exact HQB'.alloc hq6' _
                    have p0 : w7.cell? ⟨wr.heap.size, 0, none⟩ = some (.int .i64 N) := by rw [← hw7]; exact cell_of (alloc_new' rfl) rfl
                    have p1 : w7.cell? ⟨wr.heap.size, 1, none⟩ = some (.int .u32 b) := by rw [← hw7]; exact cell_of (alloc_new' rfl) rfl
                    have p2 : wr.heap.size < w7.heap.size := by rw [← hw7]; simp
                    clear hw7 hlk hd
                    have cB : Calls Ybaf.prog 9 #[.int .i64 N, .int .u32 b] w7.drew fun e w' => e = .returned (.agg #[.int .i64 N, .int .u32 b]) ∧ w'.cell? ⟨wr.heap.size, 0, none⟩ = some (.int .i64 N) ∧ w'.cell? ⟨wr.heap.size, 1, none⟩ = some (.int .u32 b) ∧ Hid (Below w6.heap.size w6 w') := by
                      refine (fromBits N b hN1 hN2 HLT w7.drew).mono ?_
                      rintro e w8 ⟨rfl, hb8⟩
                      have hb9 : Below w7.heap.size w7 w8 := ⟨hb8.os, hb8.tape, hb8.output, hb8.size, hb8.block⟩
                      exact ⟨rfl, (hb9.cell (p := ⟨wr.heap.size, 0, none⟩) p2).trans p0, (hb9.cell (p := ⟨wr.heap.size, 1, none⟩) p2).trans p1, HB7.trans (hb9.mono (by omega))⟩
                    go_region_with (go_at_call 9; refine cB.mono ?_; rintro e w8 ⟨rfl, p3, p4, HB8⟩)
                    all_goals
                      go_wp2
                      go_roundw
                      case rel => exact ⟨r + 1, rfl, by omega, by omega, HB8⟩
                      case measure => simp [leftR]; omega
            · have hd : decide (r ≤ 14) = false := decide_eq_false hr14
              go_wp2
              go_ret
              exact ⟨rfl, HBW6.trans (HQB.mono (by have := HBW6.size; omega))⟩
end Go.Proofs.YbulkbczoFmt
