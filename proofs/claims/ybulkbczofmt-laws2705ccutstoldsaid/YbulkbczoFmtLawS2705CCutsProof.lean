/-
  LawS2705CCuts: the told card.
-/
import Derived.Test.YbulkbczoFmtLaw
import Derived.Test.YbulkbczoFmtCards
import Derived.ProofKit
import Derived.Deep.Slices
import Derived.Stop.JoinedTold
import Derived.SevenToldRow
namespace Go.Proofs.YbulkbczoFmt.lawS2705CCuts
open Go.ChangeShapes Go.WideShapes Go.ChangeAt Go.RowKit

theorem own : ownKnob Ybaf.prog.godebug = none := by kernel_rfl
theorem laidOut : laidOutB Ybaf.pinned.checked.prog = true := by kernel_rfl
theorem stops : Ybaf.pinned.checked.prog.stops = ["fmt.Sprintf"] := by kernel_rfl
theorem stopKnobs : Ybaf.pinned.checked.prog.stopKnobs = [] := by kernel_rfl
theorem quiet (os : Os) : Stop.quiet Ybaf.pinned.checked.prog os := by
  intro k hk
  rw [stopKnobs] at hk
  cases hk

theorem lt_of_cell {W : World} {p : Addr} {v : Value} (h : W.cell? p = some v) : p.block < W.heap.size := by
  rcases Nat.lt_or_ge p.block W.heap.size with h' | h'
  · exact h'
  · simp [World.cell?, Array.getElem?_eq_none h'] at h

theorem u8_of_wf {n : Int} (h : (Lit.int .u8 n).wf = true) : 0 ≤ n ∧ n < 256 := by
  simp [Lit.wf, IntKind.min, IntKind.max, IntKind.signed, IntKind.bits] at h
  omega

theorem len3 {l : List Value} (h : l.length = 3) : ∃ a b c, l = [a, b, c] := by
  match l, h with
  | [a, b, c], _ => exact ⟨a, b, c, rfl⟩

set_option maxRecDepth 100000 in
theorem open_part {H : Type} {enc : TypeId × Value → H} {W : World} {fuel : Nat} {cs : List Value} {x : DataW H × List MemPlace} (a : Addr) (i : Nat) (hc : W.cells? 0 (a.add (i * 3)) 3 = some cs) (h : DataW.trod enc Ybaf.prog W 0 (fun _ => true) true fuel 63 cs = some x) :
    ∃ q : Part, PartAt W (some a) i q := by
  obtain ⟨xs, n, -, -, -, hxs, hf⟩ := DataW.trod_struct Ybaf.underlying63 h
  obtain ⟨-, hlen, hcell⟩ := World.cells?_some hc
  have hxs3 : xs.length = 3 := hxs
  obtain ⟨c0, c1, c2, rfl⟩ := len3 hlen
  have s5 : Ybaf.prog.cellsOf 5 = 1 := by kernel_rfl
  have s61 : Ybaf.prog.cellsOf 61 = 1 := by kernel_rfl
  have f0 : DataW.trod enc Ybaf.prog W 0 (fun _ => true) true n 5 (([c0, c1, c2].drop 0).take (Ybaf.prog.cellsOf 5)) = xs[0]? := hf 0 _ rfl
  have f1 : DataW.trod enc Ybaf.prog W 0 (fun _ => true) true n 5 (([c0, c1, c2].drop 1).take (Ybaf.prog.cellsOf 5)) = xs[1]? := hf 1 _ rfl
  have f2 : DataW.trod enc Ybaf.prog W 0 (fun _ => true) true n 61 (([c0, c1, c2].drop 2).take (Ybaf.prog.cellsOf 61)) = xs[2]? := hf 2 _ rfl
  rw [s5, List.getElem?_eq_getElem (by omega)] at f0 f1
  rw [s61, List.getElem?_eq_getElem (by omega)] at f2
  simp only [List.drop_zero, List.drop_succ_cons, List.take_succ_cons, List.take_zero] at f0 f1 f2
  obtain ⟨r, e0, -, wr⟩ := DataW.trod_int Ybaf.underlying5 f0
  obtain ⟨s, e1, -, ws⟩ := DataW.trod_int Ybaf.underlying5 f1
  cases e0
  cases e1
  have hr := u8_of_wf wr
  have hs := u8_of_wf ws
  have k0 : W.cell? (a.add (i * 3)) = some (.int .u8 r) := by simpa [Addr.add] using hcell 0 (by omega)
  have k1 : W.cell? ⟨(a.add (i * 3)).block, (a.add (i * 3)).off + 1, none⟩ = some (.int .u8 s) := by
    have := hcell 1 (by omega); unfold Addr.add at this ⊢; simpa using this
  have k2 : W.cell? ⟨(a.add (i * 3)).block, (a.add (i * 3)).off + 2, none⟩ = some c2 := by
    have := hcell 2 (by omega); unfold Addr.add at this ⊢; simpa using this
  have hab : a.block < W.heap.size := by have := lt_of_cell k0; rwa [add_block] at this
  have er : ((r.toNat : Nat) : Int) = r := Int.toNat_of_nonneg hr.1
  have es : ((s.toNat : Nat) : Int) = s := Int.toNat_of_nonneg hs.1
  rcases open_ints Ybaf.underlying61 Ybaf.underlying5 s5 f2 with ⟨hcs, _⟩ | ⟨b, l, c, zs, hcs, _, hl, hm, hz, _, hcl, hwz⟩
  · cases hcs
    refine ⟨⟨r.toNat, s.toNat, none, 0, []⟩, ⟨a, rfl, hab, ?_, ?_, ?_⟩, by simp only; omega, by simp only; omega, fun k hk => absurd hk (by simp), by simp⟩
    · simp only [er]; exact k0
    · simp only [es]; exact k1
    · exact k2
  · cases hcs
    have hzl : zs.length = c := by simpa using hz
    have hxl : ((zs.take l).map Int.toNat).length = l := by simp; omega
    refine ⟨⟨r.toNat, s.toNat, some b, c, (zs.take l).map Int.toNat⟩, ⟨a, rfl, hab, ?_, ?_, ?_⟩, by simp only; omega, by simp only; omega, fun k hk => ?_, by simp only [hxl]; omega⟩
    · simp only [er]; exact k0
    · simp only [es]; exact k1
    · simp only [hxl]; exact k2
    · have hk' : k < l := by simp only [hxl] at hk; exact hk
      have hkz : k < zs.length := by omega
      have hw := u8_of_wf (hwz zs[k] (List.getElem_mem hkz))
      have hck := hcl k hkz
      have eg : zs.getD k 0 = zs[k] := by simp [List.getD, hkz]
      rw [eg] at hck
      have ek : (((zs.take l).map Int.toNat)[k]) = (zs[k]).toNat := by simp
      have ez : (((zs[k]).toNat : Nat) : Int) = zs[k] := Int.toNat_of_nonneg hw.1
      simp only [ek]
      refine ⟨by omega, b, rfl, by have := lt_of_cell hck; rwa [add_block] at this, ?_⟩
      rw [ez]; exact hck

/-- The argument of parts, opened. -/
theorem open_parts {H : Type} {enc : TypeId × Value → H} {W : World} {o : Option Addr} {len cap : Nat} {d : DataW H} {p : List MemPlace} (h : DataW.Trod enc Ybaf.prog W 0 (fun _ => true) true 60 (.slice o len cap) d p) :
    ∃ ps : List Part, ps.length = len ∧ len ≤ maxLen ∧ Hid (∀ i (hi : i < ps.length), PartAt W o i ps[i]) := by
  obtain ⟨fuel, hf⟩ := h
  rcases Deep.open_slice Ybaf.underlying60 hf with ⟨hcs, _⟩ | ⟨a, l, c, m, n, D, Pl, hcs, _, hl, hm, hmm, _, hx⟩
  · simp [Value.cells] at hcs
    obtain ⟨rfl, rfl, rfl⟩ := hcs
    exact ⟨[], rfl, Nat.zero_le _, fun i hi => absurd hi (by simp)⟩
  · simp [Value.cells] at hcs
    obtain ⟨rfl, rfl, rfl⟩ := hcs
    have s63 : Ybaf.prog.cellsOf 63 = 3 := by kernel_rfl
    rw [s63] at hx
    have hmc : m = cap := by simpa using hmm
    haveI : Inhabited Part := ⟨⟨0, 0, none, 0, []⟩⟩
    obtain ⟨f, hf'⟩ := Deep.choose_lt (α := Part) (n := len) (p := fun i q => PartAt W (some a) i q) (fun i hi => by
      obtain ⟨cs', h1, h2⟩ := hx i (by omega)
      exact open_part a i h1 h2)
    refine ⟨(List.range len).map f, by simp, by omega, fun i hi => ?_⟩
    simp only [List.getElem_map, List.getElem_range]
    exact hf' i (by simpa using hi)

set_option maxRecDepth 100000 in
theorem lifted (os : Os) (started : os.Started) (H : Type) (enc : TypeId × Value → H) :
    ReturnsInTold none {} Ybaf.checked os 4 .any Input.okWide ((OpenSpec.ofChange Rows.lawS2705CCutsSpec).preRow enc Ybaf.prog Ybaf.f4 [] false []) (fun F => ((OpenSpec.ofChange Rows.lawS2705CCutsSpec).at F).post enc Ybaf.prog Ybaf.f4 false true false false) (aloneAtReturn Ybaf.prog) nothingAlways := by
  refine returnsInTold_of_row (C := Ybaf.checked) (s := OpenSpec.ofChange Rows.lawS2705CCutsSpec) (by kernel_rfl) own started (by kernel_rfl) Ybaf.func4
    (OpenSpec.witness_stopped (enc := enc) (C := Ybaf.checked) false ⟨#[], #[.int .u8 0, .slice none 0 0], []⟩ 8 (by kernel_rfl) (by kernel_rfl) (by kernel_rfl) (by kernel_rfl)) ?_
  intro F W base args ds gs before _ hF hval0 hW _ _ _ _ _
  have hval : ∀ (j : Nat) t v, Ybaf.f4.params[j]? = some t → args[j]? = some v → Value.okWide Ybaf.prog W .any base t v := hval0
  have hW' := hW
  obtain ⟨p, q, hA0, hV, rfl, hfz, hnd⟩ := hW
  have hA : DataW.TrodAll enc Ybaf.prog W 0 (fun _ => true) true Ybaf.f4.params.toList args.toList ds p := hA0
  rw [Ybaf.params4] at hA hval
  obtain ⟨v0, v1, d0, d1, p0, p1, rfl, rfl, rfl, h0, h1⟩ := trodAll_two hA
  obtain ⟨rfl, rfl⟩ := trodVars_none hV
  obtain ⟨a0, rfl, rfl, rfl, w0⟩ := open_int Ybaf.underlying5 (hval 0 5 v0 rfl rfl) h0
  obtain ⟨o, len, cap, rfl⟩ := okWide_slice Ybaf.underlying60 (hval 1 60 v1 rfl rfl)
  have k1 := h1
  have lt1 : ∀ x ∈ p1, x.block < W.heap.size := by obtain ⟨m, hm⟩ := k1; exact DataW.trod_lt m _ _ _ hm
  obtain ⟨ps, rfl, hlm, hps⟩ := open_parts h1
  clear hA0 hval0
  have hu := u8_of_wf w0
  have ea : ((a0.toNat : Nat) : Int) = a0 := Int.toNat_of_nonneg hu.1
  have hwalk := cuts a0.toNat (by omega) o cap ps W hlm hps
  rw [ea] at hwalk
  refine hwalk.mono fun e W' ⟨he, bel⟩ => ?_
  subst he
  exact ⟨_, rfl, _, _, _, [], _, [], hW', trodAll_mk1 (shut_bool Ybaf.underlying4 _), trodAll_mk2 (shut_int Ybaf.underlying5 w0) (Below.trod laidOut (by kernel_rfl) (of_decide_eq_true (by kernel_rfl)) k1 bel lt1), rfl, bel.frame _, fun h => by cases h⟩

/-- ████ THE STATEMENT ████ -/
theorem proved : Rows.LawS2705CCutsToldSaid :=
  Claim7.holds_of_told_any 4 Ybaf.f4 "fmt.Sprintf" [] [] _ _ _ (by kernel_rfl) rfl rfl rfl laidOut (by kernel_rfl) rfl ⟨rfl, rfl, rfl, rfl, rfl, rfl, rfl⟩ rfl rfl (by kernel_rfl) (by kernel_rfl) Ybaf.func4 (by kernel_rfl)
    (of_decide_eq_true (by kernel_rfl)) (by unfold Func.isWrapper; first | (rw [if_pos (by decide +kernel)]; kernel_rfl) | (rw [if_neg (by decide +kernel)]; exact ⟨rfl, rfl⟩)) stops.symm rfl stopKnobs.symm (by kernel_rfl)
    (by kernel_rfl) (by kernel_rfl) (by kernel_rfl) (by kernel_rfl) (by kernel_rfl) (by kernel_rfl) (by kernel_rfl) (by kernel_rfl) (by kernel_rfl) rfl (by kernel_rfl) rfl rfl
    rfl rfl
    rfl (by kernel_rfl) (by kernel_rfl) (by kernel_rfl) (by decide) (by kernel_rfl)
    (OpenClaim.moreEntering_of (by kernel_rfl) (by kernel_rfl) (by kernel_rfl) (by kernel_rfl) (by kernel_rfl) (by kernel_rfl) (by kernel_rfl) (by kernel_rfl) (by kernel_rfl) (by kernel_rfl))
    ⟨_, WideRow.started_initial, quiet _⟩
    (fun os started _ H enc _ => lifted os started H enc)
end Go.Proofs.YbulkbczoFmt.lawS2705CCuts
