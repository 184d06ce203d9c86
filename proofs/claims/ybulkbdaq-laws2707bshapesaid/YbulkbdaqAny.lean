/-
  appendModifiedPredecessor BY ONE CONTRACT: the case table.
-/
import Derived.Test.YbulkbdaqSetup
namespace Go.Proofs.Ybulkbdaq
open Go.RowKit

/-- What the derivation gives, a case of the table each. -/
def PredIs (hl : Bool) (L : List Int) (mids : List (List Int)) (ap : List Int) (lo hi M : Int) (R : List Int) : Prop :=
  (hl = false ∧ mids = [] ∧ ∃ d : Nat, M = ap.length + d ∧ R = fillL (min 64 d) hi ++ ap) ∨
  (hl = true ∧ mids ≠ [] ∧ R = mids.getLastD [] ++ ap) ∨
  (hl = true ∧ mids = [] ∧ ∃ m : Nat, L = [(m : Int)] ∧ (m : Int) ≤ lo ∧ R = ap) ∨
  (hl = true ∧ mids = [] ∧ ∃ (ini : List Int) (m : Nat), L = ini ++ [(m : Int)] ∧ 1 ≤ ini.length ∧ ini.length ≤ 62 ∧ (m : Int) ≤ lo ∧ R = (ini.length : Int) :: (ini ++ ap)) ∨
  (hl = true ∧ mids = [] ∧ ∃ (ini : List Int) (m grow : Nat), L = ini ++ [(m : Int)] ∧ ini.length ≤ 62 ∧ lo < (m : Int) ∧ m < 256 ∧
    (grow : Int) = min (63 - ((ini.length + 1 : Nat) : Int)) (M - (1 + ((ini.length + 1 : Nat) : Int) + ap.length)) ∧ R = ((ini.length + 1 + grow : Nat) : Int) :: (ini ++ (bel lo hi m :: (List.replicate grow hi ++ ap))))

/-- The label's shape where there is one. -/
theorem label_shape (bl : List Int) : ∃ (ini : List Int) (m : Nat), labelOf true bl = ini ++ [(m : Int)] ∧ ini.length ≤ 62 ∧ m < 256 := by
  have hlen := labelOf_len true bl
  have hne : labelOf true bl ≠ [] := fun e => by have := hlen.2 rfl; rw [e] at this; simp at this
  have hl := List.dropLast_concat_getLast hne
  have hmem : ∀ y ∈ labelOf true bl, 97 ≤ y ∧ y ≤ 104 := by
    intro y hy
    unfold labelOf at hy
    rw [if_pos rfl] at hy
    split at hy
    · simp at hy; omega
    · obtain ⟨x, _, rfl⟩ := List.mem_map.1 hy
      omega
  obtain ⟨h1, h2⟩ := hmem _ (List.getLast_mem hne)
  refine ⟨(labelOf true bl).dropLast, ((labelOf true bl).getLast hne).toNat, ?_, ?_, by omega⟩
  · rw [Int.toNat_of_nonneg (by omega)]; exact hl.symm
  · rw [List.length_dropLast]; omega

theorem blocks_blk (ss : List ByteArray) (k : Nat) : ∀ b ∈ blocks ss k, Blk b := by
  intro b hb
  obtain ⟨s, _, rfl⟩ := List.mem_map.1 hb
  exact ⟨labB s, rfl, by have := labB_len s; omega⟩
theorem midsOf_blk (hl : Bool) (ss : List ByteArray) : ∀ b ∈ midsOf hl ss, Blk b := by
  unfold midsOf; split
  · exact blocks_blk ss 3
  · intro b hb; cases hb

/-- The last block of a list of blocks, by its place. -/
theorem drop_last (bs : List (List Int)) (ap : List Int) (hne : bs ≠ []) : (bs.flatten ++ ap).drop (off bs (bs.length - 1)) = bs.getLastD [] ++ ap := by
  have hm : 0 < bs.length := List.length_pos_iff.2 hne
  have e1 : bs.dropLast ++ [bs.getLast hne] = bs := List.dropLast_concat_getLast hne
  have e2 : bs.getLastD [] = bs.getLast hne := by rw [List.getLastD_eq_getLast?, List.getLast?_eq_some_getLast hne]; rfl
  have e3 : off bs (bs.length - 1) = bs.dropLast.flatten.length := by unfold off; rw [List.dropLast_eq_take]
  rw [e2, e3]
  conv => lhs; rw [← e1]
  rw [List.flatten_append, List.append_assoc]
  simp

theorem pred_any (w : World) (B : Nat) (a : Option Addr) (n c : Nat) (xs : List Int) (ho : Own w B a n c xs) (hB : B ≤ w.heap.size) (hn : n ≤ 65536)
    (hl : Bool) (bl : List Int) (ms as_ : List ByteArray)
    (La : Option Addr) (Ln Lc : Nat) (hL : Has w La Ln Lc (labelOf hl bl)) (hLn : La = none ↔ hl = false) (hLB : ∀ b, blk La = some b → b < B)
    (Ra : Option Addr) (Rn Rc : Nat) (hR : Has w Ra Rn Rc ((midsOf hl ms).flatten ++ apexOf as_)) (hRB : ∀ b, blk Ra = some b → b < B)
    (An : Nat) (hAn : (apexOf as_).length = An) (x M : Int) (hM : ∃ wl : Nat, wl = (if hl then 1 + Ln + Rn else Rn) ∧ M = wl + x % (256 - wl))
    (g : Nat) (lo hi : Int) (r : IsR w g lo hi) (hg : g < B) (hne : La = none → Ln = 0 ∧ Lc = 0) :
    Calls Yba.prog 12 #[.slice a n c, .slice La Ln Lc, .slice Ra Rn Rc, .agg #[.int .i64 (An : Nat), .int .i64 M], .pointer (some ⟨g, 0, none⟩)] w fun e w' => ∃ a' n' c' R, e = .returned (.slice a' n' c') ∧
      PredIs hl (labelOf hl bl) (midsOf hl ms) (apexOf as_) lo hi M R ∧ Own w' B a' n' c' (xs ++ R) ∧ Below B w w' := by
  have hRl := hR.len
  have hLl := hL.len
  rw [List.length_append] at hRl
  have k1 := midsOf_len hl ms
  have k2 : (apexOf as_).length ≤ 64 := by have := blocks_len as_ 3; simp [apexOf] at *; omega
  have k2' : 1 ≤ (apexOf as_).length := by simp [apexOf]
  have k3 := labelOf_len hl bl
  obtain ⟨wl, hwl, rfl⟩ := hM
  have hq0 : 0 ≤ x % ((256 : Int) - wl) := Int.emod_nonneg _ (by rw [hwl]; split <;> omega)
  have hq1 : x % ((256 : Int) - wl) < (256 : Int) - wl := Int.emod_lt_of_pos _ (by rw [hwl]; split <;> omega)
  have hwl2 : wl ≤ 191 := by rw [hwl]; split <;> omega
  cases hl with
  | false =>
    obtain rfl : La = none := hLn.2 rfl
    obtain ⟨rfl, rfl⟩ := hne rfl
    have hwl' : wl = Rn := hwl
    obtain ⟨d, hd⟩ : ∃ d : Nat, x % ((256 : Int) - wl) = d := ⟨(x % ((256 : Int) - wl)).toNat, by omega⟩
    refine (pred_nil w B a n c xs ho hB hn Ra Rn Rc _ hR (fun _ => hRB) (by omega) An _ d (by omega) (by omega) g lo hi r hg).mono ?_
    rintro e w' ⟨a', n', c', rfl, g', b'⟩
    have e0 : midsOf false ms = [] := rfl
    rw [e0] at g' hRl ⊢
    refine ⟨a', n', c', _, rfl, Or.inl ⟨rfl, rfl, d, ?_, rfl⟩, by simpa using g', b'⟩
    simp at hRl; omega
  | true =>
    obtain ⟨la, rfl⟩ := Option.ne_none_iff_exists'.1 (show La ≠ none from fun e => Bool.noConfusion (hLn.1 e))
    by_cases hm : midsOf true ms = []
    · obtain ⟨ini, m, hs, hi62, hm256⟩ := label_shape bl
      rw [hm] at hR hRl ⊢
      simp only [List.flatten_nil, List.nil_append, List.length_nil, Nat.zero_add] at hR hRl
      rw [hs] at hL hLl ⊢
      have hLn' : Ln = ini.length + 1 := by rw [← hLl]; simp
      obtain rfl : An = Rn := by omega
      by_cases hml : (m : Int) ≤ lo
      · by_cases h0 : ini = []
        · subst h0
          simp only [List.nil_append, List.length_nil, Nat.zero_add] at hL hLn' ⊢
          subst hLn'
          refine (pred_one w B a n c xs ho hB hn _ Lc m hL hLB Ra An Rc _ hR (by omega) _ g lo hi r hg hml).mono ?_
          rintro e w' ⟨a', n', c', rfl, g', b'⟩
          exact ⟨a', n', c', _, rfl, Or.inr (Or.inr (Or.inl ⟨rfl, rfl, m, rfl, hml, rfl⟩)), g', b'⟩
        · have h1 : 0 < ini.length := List.length_pos_iff.2 h0
          subst hLn'
          refine (pred_cut w B a n c xs ho hB hn _ ini.length Lc m ini hL hLB h1 hi62 Ra An Rc _ hR (fun _ => hRB) (by omega) _ g lo hi r hg hml).mono ?_
          rintro e w' ⟨a', n', c', rfl, g', b'⟩
          exact ⟨a', n', c', _, rfl, Or.inr (Or.inr (Or.inr (Or.inl ⟨rfl, rfl, ini, m, rfl, h1, hi62, hml, rfl⟩))), g', b'⟩
      · subst hLn'
        have hwl' : wl = 1 + (ini.length + 1) + An := hwl
        obtain ⟨grow, hgr⟩ : ∃ grow : Nat, (grow : Int) = min (63 - ((ini.length + 1 : Nat) : Int)) ((wl : Int) + x % (256 - wl) - (1 + ((ini.length + 1 : Nat) : Int) + An)) :=
          ⟨(min (63 - ((ini.length + 1 : Nat) : Int)) ((wl : Int) + x % (256 - wl) - (1 + ((ini.length + 1 : Nat) : Int) + An))).toNat, by omega⟩
        refine (pred_dec w B a n c xs ho hB hn _ ini.length Lc m ini hL hLB hi62 Ra An Rc _ hR (fun _ => hRB) (by omega) _ (by omega) (by omega) grow hgr g lo hi r hg (by omega) hm256).mono ?_
        rintro e w' ⟨a', n', c', rfl, g', b'⟩
        exact ⟨a', n', c', _, rfl, Or.inr (Or.inr (Or.inr (Or.inr ⟨rfl, rfl, ini, m, grow, rfl, hi62, by omega, hm256, by rw [hAn]; exact hgr, rfl⟩))), g', b'⟩
    · have hap : apexOf as_ ≠ [] := by simp [apexOf]
      subst hAn
      refine (pred_deep w B a n c xs ho hB hn la Ln Lc Ra Rn Rc (midsOf true ms) (apexOf as_) hR hRB (by omega) (midsOf_blk true ms) hm hap _ g).mono ?_
      rintro e w' ⟨a', n', c', rfl, g', b'⟩
      rw [drop_last _ _ hm] at g'
      exact ⟨a', n', c', _, rfl, Or.inr (Or.inl ⟨rfl, hm, rfl⟩), g', b'⟩
end Go.Proofs.Ybulkbdaq
