/-
  From the reading of an argument to the slice that the walks speak of; from 'Below' to the row's closing condition.
-/
import Derived.Test.Qxb6601734aBase
import Derived.OpenShut
import Derived.ShutString
import Derived.SliceStrings
import Derived.ChangeSlices
import Derived.Deep.Grids
namespace Go.Proofs.Qxb6601734a
open Go.ChangeShapes Go.WideShapes Go.ChangeAt Go.RowKit

theorem Try.cells9 : Try.prog.cellsOf 9 = 1 := by kernel_rfl
theorem Try.cells3 : Try.prog.cellsOf 3 = 1 := by kernel_rfl
theorem Try.cells4 : Try.prog.cellsOf 4 = 1 := by kernel_rfl
theorem Try.laidOut : laidOutB Try.prog = true := by kernel_rfl

theorem lt_of_cell {w : World} {b o : Nat} {v : Value} (h : w.cell? ⟨b, o, none⟩ = some v) : b < w.heap.size := by
  rcases Nat.lt_or_ge b w.heap.size with h' | h'
  · exact h'
  · unfold World.cell? at h
    rw [Array.getElem?_eq_none h'] at h
    cases h

/-- Cells at an address of which only they are known. -/
theorem view_cells {w : World} {a : Addr} {len cap : Nat} {cs : List Value} (hl : cs.length = len) (hc : len ≤ cap) (h : ∀ i (hi : i < cs.length), w.cell? (a.add i) = some cs[i]) : SlA w (some a) len cap cs := by
  refine ⟨hl, hc, (fun e => by cases e), fun hn => ?_⟩
  obtain ⟨b, off, spot⟩ := a
  have hs : spot = none := by simpa [Addr.add] using World.cell?_spot (h 0 (by omega))
  subst hs
  have h' : ∀ j (hj : j < cs.length), w.cell? ⟨b, off + j, none⟩ = some cs[j] := fun j hj => by rw [← add_plain]; exact h j hj
  exact ⟨b, off, rfl, lt_of_cell (h' 0 (by omega)), h'⟩

section
variable {H : Type} {enc : TypeId × Value → H} {W : World} {d : DataW H} {p : List MemPlace} {base : Nat} {v : Value}

theorem view_strings (hv : Value.okWide Try.prog W .any base 22 v) (h : DataW.Trod enc Try.prog W 0 (fun _ => true) true 22 v d p) : ∃ ao n cap, v = .slice ao n cap ∧ ∃ ss : List ByteArray, SlA W ao n cap (ss.map Value.string) := by
  obtain ⟨a0, len, cap, rfl⟩ := okWide_slice Try.underlying22 hv
  refine ⟨a0, len, cap, rfl, ?_⟩
  obtain ⟨fuel, hf⟩ := h
  rcases open_strings Try.underlying22 Try.underlying9 Try.cells9 hf with ⟨hcs, hx⟩ | ⟨a, len', cap', ss, hcs, _, hl, hm, hz, hx, hcell, _⟩
  · simp [Value.cells] at hcs
    obtain ⟨rfl, rfl, rfl⟩ := hcs
    exact ⟨[], SlA.nil _⟩
  · simp [Value.cells] at hcs
    obtain ⟨rfl, rfl, rfl⟩ := hcs
    simp only [if_true] at hz
    refine ⟨ss.take len, view_cells (by simp; omega) hl (fun i hi => ?_)⟩
    have hi2 : i < ss.length := by simp at hi; omega
    rw [hcell i hi2]
    simp [List.getD, hi2]
theorem view_ints (hv : Value.okWide Try.prog W .any base 23 v) (h : DataW.Trod enc Try.prog W 0 (fun _ => true) true 23 v d p) : ∃ ao n cap, v = .slice ao n cap ∧ ∃ zs : List Int, SlA W ao n cap (zs.map (Value.int .i64)) := by
  obtain ⟨a0, len, cap, rfl⟩ := okWide_slice Try.underlying23 hv
  refine ⟨a0, len, cap, rfl, ?_⟩
  obtain ⟨fuel, hf⟩ := h
  rcases open_ints Try.underlying23 Try.underlying3 Try.cells3 hf with ⟨hcs, hx⟩ | ⟨a, len', cap', ss, hcs, _, hl, hm, hz, hx, hcell, _⟩
  · simp [Value.cells] at hcs
    obtain ⟨rfl, rfl, rfl⟩ := hcs
    exact ⟨[], SlA.nil _⟩
  · simp [Value.cells] at hcs
    obtain ⟨rfl, rfl, rfl⟩ := hcs
    simp only [if_true] at hz
    refine ⟨ss.take len, view_cells (by simp; omega) hl (fun i hi => ?_)⟩
    have hi2 : i < ss.length := by simp at hi; omega
    rw [hcell i hi2]
    simp [List.getD, hi2]
theorem view_bools (hv : Value.okWide Try.prog W .any base 24 v) (h : DataW.Trod enc Try.prog W 0 (fun _ => true) true 24 v d p) : ∃ ao n cap, v = .slice ao n cap ∧ ∃ bs : List Bool, SlA W ao n cap (bs.map Value.bool) := by
  obtain ⟨a0, len, cap, rfl⟩ := okWide_slice Try.underlying24 hv
  refine ⟨a0, len, cap, rfl, ?_⟩
  obtain ⟨fuel, hf⟩ := h
  rcases Deep.open_bools Try.underlying24 Try.underlying4 Try.cells4 hf with ⟨hcs, hx⟩ | ⟨a, len', cap', B, hcs, _, hl, hm, hx, hcell⟩
  · simp [Value.cells] at hcs
    obtain ⟨rfl, rfl, rfl⟩ := hcs
    exact ⟨[], SlA.nil _⟩
  · simp [Value.cells] at hcs
    obtain ⟨rfl, rfl, rfl⟩ := hcs
    refine ⟨(List.range len).map B, view_cells (by simp) hl (fun i hi => ?_)⟩
    simp at hi
    rw [hcell i (by omega)]
    simp
end

/-- From 'Below' to the row's closing condition, where the row has no 'again'. -/
theorem post_of_below {P : Program} {H : Type} {enc : TypeId × Value → H} {f : Func} {s : ChangeSpec} {apart fresh handsOn : Bool} {W W' : World} {args : Array Value} {v : Value} {ds gs : List (DataW H)} {before pa pv : List MemPlace}
    (hW : DataW.Whole enc P f.params.toList s.vars apart W args.toList ds gs before)
    (hres : ∀ (b : Nat) (sp : Nat → Bool) (hd : Bool), DataW.TrodAll enc P W' b sp hd f.resultTypes.toList (v.resultList f.resultTypes.size) (s.fn H (ds ++ gs)).results [])
    (hargs : DataW.TrodAll enc P W' 0 (fun b => decide (b < W.heap.size)) true f.params.toList args.toList (s.fn H (ds ++ gs)).args pa)
    (hvars : ∀ sp : Nat → Bool, DataW.TrodVars enc P W' sp s.vars (s.fn H (ds ++ gs)).vars pv)
    (hb : Below W.heap.size W W') :
    s.post enc P f apart fresh handsOn false W args v W' :=
  ⟨ds, gs, before, [], pa, pv, hW, hres _ _ _, hargs, hvars _, World.keptBut_mono (fun _ f => f.elim) (hb.frame (fun _ => False)), fun h => by cases h⟩
end Go.Proofs.Qxb6601734a
