/-
  THE SEAT's OWN VOCABULARY for slices of bytes: 'Has' (a slice value reads as a list of numbers), 'Own' (a slice value owns a row of the call's own), and the laws on append, slicing, bytes.Equal in these words.
-/
import Derived.Test.YbulkbdaqRows
import Derived.WalkKit
import Derived.WalkSpells
import Derived.WalkLawsBesides
import Derived.Maps.AppendAt
import Derived.Laws.BytesArg
import Derived.OpenShut
namespace Go.Proofs.Ybulkbdaq
open Go.RowKit

/-- The slice '.slice a n c' of bytes reads, in the world w, as the numbers l. -/
structure Has (w : World) (a : Option Addr) (n c : Nat) (l : List Int) : Prop where
  len : l.length = n
  le : n ≤ c
  max : c ≤ maxLen
  nil : a = none → c = 0
  at_ : 0 < c → ∃ b o, a = some ⟨b, o, none⟩ ∧ ∀ i, i < n → w.cell? ⟨b, o + i, none⟩ = some (.int .u8 (l.getD i 0))

/-- The block in which a slice lies. -/
def blk (a : Option Addr) : Option Nat := a.map (·.block)

/-- The slice '.slice a n c' owns the numbers xs, in a row of the blocks from B on. -/
structure Own (w : World) (B : Nat) (a : Option Addr) (n c : Nat) (xs : List Int) : Prop where
  len : xs.length = n
  row : w.ownsRow B 5 1 (.slice a n c) n (xs.map (Value.int .u8))

theorem Has.empty (w : World) : Has w none 0 0 [] := ⟨rfl, Nat.le_refl _, Nat.zero_le _, fun _ => rfl, fun h => absurd h (by omega)⟩

theorem Own.empty (w : World) (B : Nat) : Own w B none 0 0 [] := ⟨rfl, World.ownsRow_nil w B 5 1⟩

theorem Own.ownBlock {w : World} {B n c : Nat} {a : Option Addr} {xs : List Int} (_ : Own w B a n c xs) : Value.ownBlock (.slice a n c) = blk a := by
  cases a <;> rfl

theorem Own.lt {w : World} {B n c : Nat} {a : Option Addr} {xs : List Int} (h : Own w B a n c xs) : ∀ k, blk a = some k → B ≤ k ∧ k < w.heap.size := by
  intro k hk
  exact h.row.lt k (by rw [h.ownBlock]; exact hk)

theorem Own.has {w : World} {B n c : Nat} {a : Option Addr} {xs : List Int} (h : Own w B a n c xs) : Has w a n c xs := by
  rcases h.row.2 with ⟨hv, hn⟩ | ⟨g, cap, cur, hv, hb, hg, hnc, hcm, hcs, htake⟩
  · cases hv
    exact ⟨h.len, Nat.le_refl _, Nat.zero_le _, fun _ => rfl, fun hc => absurd hc (by omega)⟩
  · cases hv
    refine ⟨h.len, hnc, hcm, fun e => (by cases e), fun _ => ⟨g, 0, rfl, fun i hi => ?_⟩⟩
    have e := h.row.cellAt i (by omega)
    simp only [Nat.zero_add]
    rw [e]
    have hi' : i < xs.length := by rw [h.len]; exact hi
    simp [List.getD, List.getElem?_eq_getElem hi']

/-- What was there reads as before in a world that agrees on its block. -/
theorem Has.carry {w w' : World} {n c : Nat} {a : Option Addr} {l : List Int} (h : Has w a n c l) (hb : 0 < c → ∀ k, blk a = some k → k < w.heap.size → w'.heap[k]? = w.heap[k]?) : Has w' a n c l := by
  refine ⟨h.len, h.le, h.max, h.nil, fun hc => ?_⟩
  obtain ⟨b, o, rfl, hcell⟩ := h.at_ hc
  refine ⟨b, o, rfl, fun i hi => ?_⟩
  have h1 := hcell i hi
  have hlt : b < w.heap.size := World.block_lt_of_cell? w _ h1
  exact (World.cell?_of_block (hb hc b rfl hlt)).trans h1

theorem Has.below {w w' : World} {B n c : Nat} {a : Option Addr} {l : List Int} (h : Has w a n c l) (hb : Below B w w') (ha : 0 < c → ∀ k, blk a = some k → k < B) : Has w' a n c l :=
  h.carry fun hc k hk _ => hb.block k (ha hc k hk)

theorem Has.belowAll {w w' : World} {n c : Nat} {a : Option Addr} {l : List Int} (h : Has w a n c l) (hb : Below w.heap.size w w') : Has w' a n c l :=
  h.carry fun _ k _ hlt => hb.block k hlt

theorem Has.grown {w w' : World} {n c : Nat} {a : Option Addr} {l : List Int} {row : Option Nat} (h : Has w a n c l) (hg : w.grownBy w' row) (ha : 0 < c → ∀ k, blk a = some k → some k ≠ row) : Has w' a n c l :=
  h.carry fun hc k hk hlt => hg.block k hlt (ha hc k hk)

theorem Has.alloc {w : World} {n c : Nat} {a : Option Addr} {l : List Int} (h : Has w a n c l) (o : Obj) : Has (w.alloc o) a n c l :=
  h.carry fun _ k _ hlt => Below.heap_alloc w o k hlt

theorem Has.drew {w : World} {n c : Nat} {a : Option Addr} {l : List Int} (h : Has w a n c l) : Has w.drew a n c l :=
  h.carry fun _ _ _ _ => rfl

/-- What the frame of a law's proof tells of a slice that came in. -/
theorem has_of_row {w : World} {a : Option Addr} {len cap : Nat} {zs : List Int} (h : (a = none ∧ len = 0 ∧ cap = 0 ∧ zs = []) ∨
    ∃ x, a = some x ∧ len ≤ cap ∧ cap ≤ maxLen ∧ zs.length = cap ∧ (∀ i, i < zs.length → w.cell? (x.add i) = some (.int .u8 (zs.getD i 0))) ∧ ∀ n ∈ zs, (Lit.int .u8 n).wf = true) :
    Has w a len cap (zs.take len) ∧ (∀ x ∈ zs.take len, 0 ≤ x ∧ x ≤ 255) ∧ (0 < cap → ∀ k, blk a = some k → k < w.heap.size) := by
  rcases h with ⟨rfl, rfl, rfl, rfl⟩ | ⟨x, rfl, h1, h2, h3, h4, h5⟩
  · exact ⟨Has.empty w, by simp, fun h => absurd h (by omega)⟩
  · refine ⟨⟨by simp; omega, h1, h2, fun e => (by cases e), fun hc => ?_⟩, fun y hy => ?_, fun hc k hk => ?_⟩
    · obtain ⟨b, off, rfl, hcell⟩ := ints_at h4 (by omega)
      refine ⟨b, off, rfl, fun i hi => ?_⟩
      rw [hcell i (by omega)]
      simp only [List.getD]
      rw [List.getElem?_take_of_lt hi]
    · have := h5 y (List.mem_of_mem_take hy)
      simpa [Lit.wf, IntKind.min, IntKind.max, IntKind.bits, IntKind.signed] using this
    · obtain ⟨b, off, rfl, hcell⟩ := ints_at h4 (by omega)
      have := World.block_lt_of_cell? w _ (hcell 0 (by omega))
      simp [blk] at hk
      rw [← hk]; exact this

theorem Own.grown {w w' : World} {B n c : Nat} {a : Option Addr} {xs : List Int} {row : Option Nat} (h : Own w B a n c xs) (hg : w.grownBy w' row) (hne : ∀ k, blk a = some k → some k ≠ row) : Own w' B a n c xs := by
  refine ⟨h.len, h.row.kept hg ?_⟩
  rw [h.ownBlock]
  cases hk : blk a with
  | none => exact Or.inl rfl
  | some k => exact Or.inr (hne k hk)

theorem Own.alloc {w : World} {B n c : Nat} {a : Option Addr} {xs : List Int} (h : Own w B a n c xs) (o : Obj) : Own (w.alloc o) B a n c xs := ⟨h.len, h.row.alloc o⟩
theorem Own.drew {w : World} {B n c : Nat} {a : Option Addr} {xs : List Int} (h : Own w B a n c xs) : Own w.drew B a n c xs := ⟨h.len, h.row.drew⟩

theorem Own.carry {w w' : World} {B n c : Nat} {a : Option Addr} {xs : List Int} (h : Own w B a n c xs) (hb : ∀ k, blk a = some k → k < w.heap.size → w'.heap[k]? = w.heap[k]?) : Own w' B a n c xs := by
  refine ⟨h.len, h.row.1, ?_⟩
  rcases h.row.2 with h1 | ⟨g, cap, cur, hv, hB, hg, h2⟩
  · exact Or.inl h1
  · refine Or.inr ⟨g, cap, cur, hv, hB, ?_, h2⟩
    cases hv
    have hlt : g < w.heap.size := by
      rcases Nat.lt_or_ge g w.heap.size with h | h
      · exact h
      · rw [Array.getElem?_eq_none h] at hg; cases hg
    rw [hb g rfl hlt]; exact hg

theorem Own.mono {w : World} {B B' n c : Nat} {a : Option Addr} {xs : List Int} (h : Own w B a n c xs) (hB : B' ≤ B) : Own w B' a n c xs := by
  refine ⟨h.len, h.row.1, ?_⟩
  rcases h.row.2 with h1 | ⟨g, cap, cur, hv, hb, hg, h2⟩
  · exact Or.inl h1
  · exact Or.inr ⟨g, cap, cur, hv, Nat.le_trans hB hb, hg, h2⟩

/-- 'lives in the blocks that were there'. -/
theorem Has.lt {w : World} {n c : Nat} {a : Option Addr} {l : List Int} (h : Has w a n c l) (hn : 0 < n) : ∀ k, blk a = some k → k < w.heap.size := by
  intro k hk
  obtain ⟨b, o, rfl, hcell⟩ := h.at_ (by have := h.le; omega)
  have := World.block_lt_of_cell? w _ (hcell 0 hn)
  simp [blk] at hk
  rw [← hk]; exact this

/-! ### append -/
theorem info5 : (Yba.prog.info? 5).map (fun i => (i.zero, i.size, i.bytes)) = some (some (.int .u8 0), 1, 1) := by kernel_rfl

theorem run_app (w : World) (ty : TypeId) (B n c : Nat) (a : Option Addr) (xs : List Int) (hown : Own w B a n c xs) (a2 : Option Addr) (m c2 : Nat) (ys : List Int) (hsrc : Has w a2 m c2 ys)
    (hb : n + m ≤ 1099511627776) (hB : B ≤ w.heap.size) :
    ∃ a' c' w', (Builtin.append_ #[22, 22] ty #[.slice a n c, .slice a2 m c2]).run Yba.prog w = .ok (.slice a' (n + m) c') w' ∧ Own w' B a' (n + m) c' (xs ++ ys) ∧ w.grownBy w' (blk a) ∧
      (blk a' = blk a ∨ blk a' = some w.heap.size) ∧ (a' = none ↔ a = none ∧ m = 0) := by
  obtain ⟨i, hi, hz0, hz1, hz2⟩ := info_parts info5
  have hmx : n + m ≤ maxLen := by unfold maxLen; omega
  cases ha2 : a2 with
  | none =>
    have hc2 := hsrc.nil ha2
    have hm0 : m = 0 := by have := hsrc.le; omega
    subst hm0; subst hc2
    have hys : ys = [] := List.eq_nil_of_length_eq_zero hsrc.len
    subst hys
    have hr := run_append_owned_none (P := Yba.prog) w B 22 ty 5 i 1 Yba.underlying22 hi (.slice a n c) n _ hown.row
    refine ⟨a, c, w, ?_, ?_, World.grownBy.refl _ _, Or.inl rfl, by simp⟩
    · simpa using hr
    · simpa using hown
  | some ad =>
    have hnews : ∀ j u, (ys.map (Value.int .u8))[j]? = some u → w.cell? (ad.add j) = some u := by
      intro j u hj
      have hjl : j < ys.length := by
        have := (List.getElem?_eq_some_iff.1 hj).1
        simpa using this
      have hjm : j < m := by rw [← hsrc.len]; exact hjl
      obtain ⟨b, o, he, hcell⟩ := hsrc.at_ (by have := hsrc.le; omega)
      rw [ha2] at he
      cases he
      rw [Addr.add_lit, hcell j hjm]
      simpa [List.getD, List.getElem?_eq_getElem hjl] using hj
    obtain ⟨v', w', hr, h1, h2, h3, h4⟩ := run_append_own_at (P := Yba.prog) w B 22 ty 5 i (.int .u8 0) 1 1 Yba.underlying22 hi hz0 hz1 hz2 rfl (by decide) (.slice a n c) n _ hown.row ad m c2 (ys.map (Value.int .u8)) (by simp [hsrc.len]) hnews (ints_oneCell .u8 ys) hmx (by omega) hB
    have hshape : ∃ a' c', v' = .slice a' (n + m) c' := by
      rcases h1.2 with ⟨hv, hn⟩ | ⟨g, cap, cur, hv, _⟩
      · exact ⟨none, 0, by rw [hv, hn]⟩
      · exact ⟨_, cap, hv⟩
    obtain ⟨a', c', rfl⟩ := hshape
    have hown' : Own w' B a' (n + m) c' (xs ++ ys) := ⟨by simp [hown.len, hsrc.len], by simpa using h1⟩
    refine ⟨a', c', w', hr, hown', ?_, ?_, ?_⟩
    · rw [← hown.ownBlock]; exact h2
    · rw [← hown.ownBlock, ← hown'.ownBlock]; exact h4
    · constructor
      · intro e
        subst e
        have hz := hown'.has.nil rfl
        have hle := hown'.has.le
        have h0 : n + m = 0 := by omega
        have := h3.1 (by rw [h0, hz])
        exact ⟨by have := this.1; simp at this; exact this.1, this.2⟩
      · rintro ⟨rfl, hm⟩
        have hz := hown.has.nil rfl
        have hle := hown.has.le
        have h0 : n = 0 := by omega
        have := h3.2 ⟨by rw [h0, hz], hm⟩
        simp at this
        exact this.1

/-- append in a plain region's list of operations. -/
theorem wpApp {w : World} {ops : Array Oper} {rest : List Oper} {o : Oper} {act : Act} {Q : Exit → Act → World → Prop} (hgd : o.guard = none) (s x : Operand)
    (ho : o.op = .call { callee := .builtin .append, args := #[s, x], argTypes := #[22, 22] })
    (B n c : Nat) (a : Option Addr) (xs : List Int) (hs : act.eval s = .slice a n c) (hown : Own w B a n c xs)
    (a2 : Option Addr) (m c2 : Nat) (ys : List Int) (hx : act.eval x = .slice a2 m c2) (hsrc : Has w a2 m c2 ys)
    (hb : n + m ≤ 1099511627776) (hB : B ≤ w.heap.size)
    (h : ∀ a' c' w', Own w' B a' (n + m) c' (xs ++ ys) → w.grownBy w' (blk a) → (blk a' = blk a ∨ blk a' = some w.heap.size) → (a' = none ↔ a = none ∧ m = 0) → wpList Yba.prog ops Q rest (act.put o.dst (.slice a' (n + m) c')) w') :
    wpList Yba.prog ops Q (o :: rest) act w := by
  refine wpList_plain hgd fun K hK => ?_
  obtain ⟨a', c', w', hr, h1, h2, h3, h4⟩ := run_app w o.type B n c a xs hown a2 m c2 ys hsrc hb hB
  unfold Oper.wp execOp
  simp only [ho, resolve, invoke, builtin, Sem.run_bind, Sem.run_pure, Result.andThen_ok, List.map_toArray, List.map_cons, List.map_nil, hs, hx, hr]
  exact hK _ _ (h a' c' w' h1 h2 h3 h4)

/-! ### slicing -/
/-- The address behind a cut at l, the capacity being m: a name, so that no walk parts on it. -/
def adr (a : Option Addr) (l m : Nat) : Option Addr := if m = l then a else a.map (·.add l)

theorem blk_adr (a : Option Addr) (l m : Nat) : blk (adr a l m) = blk a := by
  unfold adr blk
  split
  · rfl
  · cases a with
    | none => rfl
    | some x => cases x with | mk b o s => simp [Addr.add]; split <;> rfl

theorem adr_none (a : Option Addr) (l m : Nat) : adr a l m = none ↔ a = none := by
  unfold adr
  split
  · rfl
  · cases a <;> simp

theorem run_cut (w : World) (a : Option Addr) (n c : Nat) (l h : Nat) (h1 : l ≤ h) (h2 : h ≤ c) :
    (Instr.slice 22 (.slice a n c) (some (.int .i64 l)) (some (.int .i64 h)) none).run Yba.prog w = .ok (.slice (adr a l c) (h - l) (c - l)) w := by
  have hs : (sizeOf (Yba.prog.elem 22)).run Yba.prog w = .ok 1 w := by kernel_rfl
  rw [run_slice_lh w 22 a n c (by kernel_rfl) .i64 .i64 l h (by omega) (by omega) (by omega), hs]
  simp [sliced, adr, Result.andThen]

theorem run_cut_h (w : World) (a : Option Addr) (n c : Nat) (h : Nat) (h2 : h ≤ c) :
    (Instr.slice 22 (.slice a n c) none (some (.int .i64 h)) none).run Yba.prog w = .ok (.slice (adr a 0 c) h c) w := by
  have hs : (sizeOf (Yba.prog.elem 22)).run Yba.prog w = .ok 1 w := by kernel_rfl
  rw [run_slice_h w 22 a n c (by kernel_rfl) .i64 h (by omega) (by omega), hs]
  simp [sliced, adr, Result.andThen]

theorem run_cut_l (w : World) (a : Option Addr) (n c : Nat) (l : Nat) (h2 : l ≤ n) :
    (Instr.slice 22 (.slice a n c) (some (.int .i64 l)) none none).run Yba.prog w = .ok (.slice (adr a l c) (n - l) (c - l)) w := by
  have hs : (sizeOf (Yba.prog.elem 22)).run Yba.prog w = .ok 1 w := by kernel_rfl
  rw [run_slice_l w 22 a n c (by kernel_rfl) .i64 l (by omega) (by omega), hs]
  simp [sliced, adr, Result.andThen]

theorem Has.cut {w : World} {a : Option Addr} {n c : Nat} {xs : List Int} (hh : Has w a n c xs) (l h : Nat) (h1 : l ≤ h) (h2 : h ≤ n) : Has w (adr a l c) (h - l) (c - l) ((xs.take h).drop l) := by
  have hlen := hh.len
  have hle := hh.le
  refine ⟨by simp; omega, by omega, by have := hh.max; omega, fun e => ?_, fun hc => ?_⟩
  · have := hh.nil ((adr_none a l c).1 e); omega
  · obtain ⟨b, o, rfl, hcell⟩ := hh.at_ (by omega)
    refine ⟨b, o + l, ?_, fun i hi => ?_⟩
    · unfold adr
      rw [if_neg (by omega)]
      simp [Addr.add_lit]
    · rw [Nat.add_assoc, hcell (l + i) (by omega)]
      congr 2
      simp only [List.getD, List.getElem?_drop]
      rw [List.getElem?_take_of_lt (by omega)]

/-! ### bytes.Equal of two slices that read alike -/
theorem run_str (w : World) (a : Option Addr) (n c : Nat) (l : List Int) (h : Has w a n c l) : (convert 22 9 (.slice a n c)).run Yba.prog w = .ok (.string (strOfNums l)) w := by
  rcases Nat.eq_zero_or_pos c with hc | hc
  · have hn : n = 0 := by have := h.le; omega
    subst hn
    have hl : l = [] := List.eq_nil_of_length_eq_zero h.len
    subst hl
    rw [run_convert_bytes_string w 22 9 5 _ 0 c Yba.underlying22 Yba.underlying5 Yba.underlying9]
    cases a <;> simp [Conv.bytesToString, loadCells]
    all_goals rfl
  · obtain ⟨b, o, rfl, hcell⟩ := h.at_ hc
    exact run_convert_bytes_arg (P := Yba.prog) w 22 5 Yba.underlying22 Yba.underlying5 b o n c l h.len hcell 9 Yba.underlying9

set_option maxHeartbeats 400000 in
theorem equal_same (w : World) (a1 a2 : Option Addr) (n1 c1 n2 c2 : Nat) (l : List Int) (h1 : Has w a1 n1 c1 l) (h2 : Has w a2 n2 c2 l) :
    Calls Yba.prog 10 #[.slice a1 n1 c1, .slice a2 n2 c2] w fun e w' => e = .returned (.bool true) ∧ w' = w := by
  have k1 := run_str w a1 n1 c1 l h1
  have k2 := run_str w a2 n2 c2 l h2
  clear h1 h2
  go_enter Yba.func10, Yba.ntmps10
  go_wp2
  go_ret
  exact ⟨by simp, rfl⟩

end Go.Proofs.Ybulkbdaq
