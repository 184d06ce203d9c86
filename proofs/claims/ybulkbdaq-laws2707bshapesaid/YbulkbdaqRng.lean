/-
  newOctetRange OVER PLAIN ARRAYS: what its three loops make of the 834 cells, with no Go in sight.
-/
import Derived.Test.YbulkbdaqZero
namespace Go.Proofs.Ybulkbdaq
open Go.RowKit

/-- The largest octet of l..h below k, or -1. -/
def bel (l h k : Int) : Int := if k ≤ l then -1 else if k - 1 ≤ h then k - 1 else h
/-- The smallest octet of l..h above k, or -1. -/
def abv (l h k : Int) : Int := if h ≤ k then -1 else if l ≤ k + 1 then k + 1 else l

theorem bel_lo {l h k : Int} (hk : k ≤ l) : bel l h k = -1 := by simp [bel, hk]
theorem bel_mid {l h k : Int} (h1 : l < k) (h2 : k ≤ h + 1) : bel l h k = k - 1 := by unfold bel; rw [if_neg (by omega), if_pos (by omega)]
theorem bel_hi {l h k : Int} (h1 : l ≤ h) (h2 : h + 1 < k) : bel l h k = h := by unfold bel; rw [if_neg (by omega), if_neg (by omega)]
theorem bel_bd {l h k : Int} (h0 : 0 ≤ l) (h1 : l ≤ h) (h2 : h ≤ 255) (hk : l < k) : 0 ≤ bel l h k ∧ bel l h k ≤ 255 ∧ bel l h k < k := by
  unfold bel; rw [if_neg (by omega)]; split <;> omega
theorem abv_hi {l h k : Int} (hk : h ≤ k) : abv l h k = -1 := by simp [abv, hk]
theorem abv_mid {l h k : Int} (h1 : k < h) (h2 : l ≤ k + 1) : abv l h k = k + 1 := by unfold abv; rw [if_neg (by omega), if_pos (by omega)]
theorem abv_lo {l h k : Int} (h1 : l ≤ h) (h2 : k + 1 < l) : abv l h k = l := by unfold abv; rw [if_neg (by omega), if_neg (by omega)]
theorem abv_bd {l h k : Int} (h0 : 0 ≤ l) (h1 : l ≤ h) (h2 : h ≤ 255) (hm : -1 ≤ k) (hk : k < h) : 0 ≤ abv l h k ∧ abv l h k ≤ 255 := by
  unfold abv; rw [if_neg (by omega)]; split <;> omega

/-- Loop 1, before its round k. -/
structure Rng (l h : Int) (k : Nat) (cur : Array Value) : Prop where
  size : cur.size = 834
  one : ∀ v ∈ cur.toList, v.oneCell' = true
  inn : ∀ j : Nat, j < 256 → cur[2 + j]? = some (.bool (decide (j < k) && inB l h j))
  prev : ∀ j : Nat, j < k → j < 256 → l < j → cur[514 + j]? = some (.int .u8 (bel l h j))

theorem O35_get_in (j : Nat) (hj : j < 256) : O35[2 + j]? = some (.bool false) := by
  unfold O35
  rw [Array.getElem?_append_left (by simp; omega), Array.getElem?_append_left (by simp; omega), Array.getElem?_append_left (by simp; omega), Array.getElem?_append_left (by simp; omega), Array.getElem?_append_right (by simp)]
  simp [hj]
theorem O35_one : ∀ v ∈ O35.toList, v.oneCell' = true := by
  intro v hv
  simp only [O35, Array.toList_append, List.mem_append, Array.toList_replicate, List.mem_replicate, List.mem_cons, List.not_mem_nil, or_false] at hv
  rcases hv with ((((h | h) | h) | h) | h) | h
  · rcases h with h | h <;> (rw [h]; rfl)
  · rw [h.2]; rfl
  · rw [h.2]; rfl
  · rw [h.2]; rfl
  · rw [h.2]; rfl
  · rw [h]; rfl

theorem Rng.start (l h : Int) : Rng l h 0 O35 :=
  ⟨O35_size, O35_one, fun j hj => by simpa using O35_get_in j hj, fun j hj => absurd hj (by omega)⟩

theorem get_set (cur : Array Value) (hs : cur.size = 834) (i j : Nat) (v : Value) (hi : i < 834) : (cur.setIfInBounds i v)[j]? = if i = j then some v else cur[j]? := by
  rw [Array.getElem?_setIfInBounds]
  split
  · rw [if_pos (by omega)]
  · rfl

theorem one_set {cur : Array Value} (h : ∀ v ∈ cur.toList, v.oneCell' = true) (i : Nat) (u : Value) (hu : u.oneCell' = true) : ∀ v ∈ (cur.setIfInBounds i u).toList, v.oneCell' = true := by
  intro v hv
  rw [Array.toList_setIfInBounds] at hv
  rcases List.mem_or_eq_of_mem_set hv with h1 | h1
  · exact h v h1
  · rw [h1]; exact hu

/-- One round of loop 1, whatever way it went: the three cells that may be written. -/
theorem Rng.step {l h : Int} {k : Nat} {cur cur' : Array Value} (r : Rng l h k cur) (hs : cur'.size = 834) (ho : ∀ v ∈ cur'.toList, v.oneCell' = true)
    (hin : ∀ j : Nat, j < 256 → cur'[2 + j]? = if j = k then some (.bool (inB l h k)) else cur[2 + j]?)
    (hpr : ∀ j : Nat, j < 256 → l < j → cur'[514 + j]? = if j = k then some (.int .u8 (bel l h k)) else cur[514 + j]?) : Rng l h (k + 1) cur' := by
  refine ⟨hs, ho, fun j hj => ?_, fun j hj hj2 hl => ?_⟩
  · rw [hin j hj]
    split
    · subst j; simp
    · rw [r.inn j hj]; congr 3; simp; omega
  · rw [hpr j hj2 hl]
    split
    · subst j; rfl
    · exact r.prev j (by omega) hj2 hl

theorem inB_f1 {l h : Int} {k : Int} (hk : k < l) : inB l h k = false := by simp [inB]; omega
theorem inB_f2 {l h : Int} {k : Int} (hk : h < k) : inB l h k = false := by simp [inB]; omega
theorem inB_t {l h : Int} {k : Int} (h1 : l ≤ k) (h2 : k ≤ h) : inB l h k = true := by simp [inB, h1, h2]

/-- below l -/
theorem Rng.stepA {l h : Int} {k : Nat} {cur : Array Value} (r : Rng l h k cur) (_hk : k < 256) (hl : (k : Int) < l) : Rng l h (k + 1) cur := by
  refine r.step r.size r.one (fun j hj => ?_) (fun j hj hlj => ?_)
  · split
    · subst j; rw [r.inn k hj, inB_f1 hl]; simp
    · rfl
  · rw [if_neg (by omega)]
theorem Rng.cuts {l h : Int} {k : Nat} {cur : Array Value} (r : Rng l h k cur) (b : Bool) : Rng l h k (cur.setIfInBounds 833 (.bool b)) := by
  refine ⟨by simp [r.size], one_set r.one _ _ rfl, fun j hj => ?_, fun j hj hj2 hl => ?_⟩
  · rw [get_set cur r.size _ _ _ (by omega), if_neg (by omega)]; exact r.inn j hj
  · rw [get_set cur r.size _ _ _ (by omega), if_neg (by omega)]; exact r.prev j hj hj2 hl
/-- at l -/
theorem Rng.stepB {l h : Int} {k : Nat} {cur : Array Value} (r : Rng l h k cur) (hk : k < 256) (hl : (k : Int) = l) (hlh : l ≤ h) : Rng l h (k + 1) (cur.setIfInBounds (2 + k) (.bool true)) := by
  refine r.step (by simp [r.size]) (one_set r.one _ _ rfl) (fun j hj => ?_) (fun j hj hlj => ?_)
  · rw [get_set cur r.size _ _ _ (by omega)]
    by_cases e : j = k
    · subst j; rw [if_pos rfl, if_pos rfl, inB_t (by omega) (by omega)]
    · rw [if_neg (by omega), if_neg e]
  · rw [get_set cur r.size _ _ _ (by omega), if_neg (by omega), if_neg (by omega)]
/-- above l, within h -/
theorem Rng.stepC {l h : Int} {k : Nat} {cur : Array Value} (r : Rng l h k cur) (hk : k < 256) (hl : l < (k : Int)) (hkh : (k : Int) ≤ h) :
    Rng l h (k + 1) ((cur.setIfInBounds (514 + k) (.int .u8 (bel l h k))).setIfInBounds (2 + k) (.bool true)) := by
  have s1 : (cur.setIfInBounds (514 + k) (.int .u8 (bel l h k))).size = 834 := by simp [r.size]
  refine r.step (by simp [r.size]) (one_set (one_set r.one _ _ rfl) _ _ rfl) (fun j hj => ?_) (fun j hj hlj => ?_)
  · rw [get_set _ s1 _ _ _ (by omega), get_set cur r.size _ _ _ (by omega)]
    by_cases e : j = k
    · subst j; rw [if_pos rfl, if_pos rfl, inB_t (by omega) (by omega)]
    · rw [if_neg (by omega), if_neg (by omega), if_neg e]
  · rw [get_set _ s1 _ _ _ (by omega), if_neg (by omega), get_set cur r.size _ _ _ (by omega)]
    by_cases e : j = k
    · subst j; rw [if_pos rfl, if_pos rfl]
    · rw [if_neg (by omega), if_neg e]
/-- above h -/
theorem Rng.stepD {l h : Int} {k : Nat} {cur : Array Value} (r : Rng l h k cur) (hk : k < 256) (_hlh : l ≤ h) (hkh : h < (k : Int)) :
    Rng l h (k + 1) (cur.setIfInBounds (514 + k) (.int .u8 (bel l h k))) := by
  refine r.step (by simp [r.size]) (one_set r.one _ _ rfl) (fun j hj => ?_) (fun j hj hlj => ?_)
  · rw [get_set cur r.size _ _ _ (by omega), if_neg (by omega)]
    split
    · subst j; rw [r.inn k hj, inB_f2 hkh]; simp
    · rfl
  · rw [get_set cur r.size _ _ _ (by omega)]
    by_cases e : j = k
    · subst j; rw [if_pos rfl, if_pos rfl]
    · rw [if_neg (by omega), if_neg e]

/-- Loop 2: 'next' is written: it touches nothing that matters. -/
theorem Rng.next {l h : Int} {k : Nat} {cur : Array Value} (r : Rng l h k cur) (i : Nat) (hi : i < 256) (x : Int) : Rng l h k (cur.setIfInBounds (258 + i) (.int .u8 x)) := by
  refine ⟨by simp [r.size], one_set r.one _ _ rfl, fun j hj => ?_, fun j hj hj2 hl => ?_⟩
  · rw [get_set cur r.size _ _ _ (by omega), if_neg (by omega)]; exact r.inn j hj
  · rw [get_set cur r.size _ _ _ (by omega), if_neg (by omega)]; exact r.prev j hj hj2 hl

/-- Loop 3, before its round k: min, max, prev, and k octets of maxRun. -/
structure Run (l h : Int) (k : Nat) (cur : Array Value) : Prop where
  size : cur.size = 834
  one : ∀ v ∈ cur.toList, v.oneCell' = true
  mn : cur[0]? = some (.int .u8 l)
  mx : cur[1]? = some (.int .u8 h)
  prev : ∀ j : Nat, j < 256 → l < j → cur[514 + j]? = some (.int .u8 (bel l h j))
  run : ∀ j : Nat, j < k → j < 63 → cur[770 + j]? = some (.int .u8 h)

theorem Rng.done {l h : Int} {cur : Array Value} (r : Rng l h 256 cur) : Run l h 0 ((cur.setIfInBounds 0 (.int .u8 l)).setIfInBounds 1 (.int .u8 h)) := by
  have s1 : (cur.setIfInBounds 0 (.int .u8 l)).size = 834 := by simp [r.size]
  refine ⟨by simp [r.size], one_set (one_set r.one _ _ rfl) _ _ rfl, ?_, ?_, fun j hj hl => ?_, fun j hj => absurd hj (by omega)⟩
  · rw [get_set _ s1 _ _ _ (by omega), if_neg (by omega), get_set cur r.size _ _ _ (by omega), if_pos rfl]
  · rw [get_set _ s1 _ _ _ (by omega), if_pos rfl]
  · rw [get_set _ s1 _ _ _ (by omega), if_neg (by omega), get_set cur r.size _ _ _ (by omega), if_neg (by omega)]
    exact r.prev j hj hj hl

theorem Run.step {l h : Int} {k : Nat} {cur : Array Value} (r : Run l h k cur) (hk : k < 63) : Run l h (k + 1) (cur.setIfInBounds (770 + k) (.int .u8 h)) := by
  refine ⟨by simp [r.size], one_set r.one _ _ rfl, ?_, ?_, fun j hj hl => ?_, fun j hj hj2 => ?_⟩
  · rw [get_set cur r.size _ _ _ (by omega), if_neg (by omega)]; exact r.mn
  · rw [get_set cur r.size _ _ _ (by omega), if_neg (by omega)]; exact r.mx
  · rw [get_set cur r.size _ _ _ (by omega), if_neg (by omega)]; exact r.prev j hj hl
  · rw [get_set cur r.size _ _ _ (by omega)]
    by_cases e : j = k
    · subst j; rw [if_pos rfl]
    · rw [if_neg (by omega)]; exact r.run j (by omega) hj2
end Go.Proofs.Ybulkbdaq
