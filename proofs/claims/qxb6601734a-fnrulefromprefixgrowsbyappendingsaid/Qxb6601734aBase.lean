/-
  A slice in memory, as these walks speak of it; what stays behind a call that only makes memory.
-/
import Derived.Test.Qxb6601734aRows
import Derived.WalkKit
import Derived.ProofKit
import Derived.Outline
import Derived.WalkSpells
import Derived.WalkLawsBesides
import Derived.Deep.DeepCutAuto
import Derived.Deep.QuietTactic
import Derived.BigQuiet
namespace Go.Proofs.Qxb6601734a
open Go.ChangeShapes Go.WideShapes Go.ChangeAt Go.RowKit

/-- The slice value '.slice ao n cap' reads, in the world w, as the cells cs (one cell an element). -/
def SlA (w : World) (ao : Option Addr) (n cap : Nat) (cs : List Value) : Prop :=
  cs.length = n ∧ n ≤ cap ∧ (ao = none → n = 0 ∧ cap = 0) ∧
  (0 < n → ∃ b off, ao = some ⟨b, off, none⟩ ∧ b < w.heap.size ∧ ∀ j (h : j < cs.length), w.cell? ⟨b, off + j, none⟩ = some cs[j])
theorem SlA.below {w w' : World} {ao : Option Addr} {n cap : Nat} {cs : List Value} (h : SlA w ao n cap cs) (hb : Below w.heap.size w w') : SlA w' ao n cap cs := by
  obtain ⟨h1, h2, h3, h4⟩ := h
  refine ⟨h1, h2, h3, fun hn => ?_⟩
  obtain ⟨b, off, e, hlt, hc⟩ := h4 hn
  exact ⟨b, off, e, Nat.lt_of_lt_of_le hlt hb.size, fun j hj => (hb.cell (p := ⟨b, off + j, none⟩) hlt).trans (hc j hj)⟩
theorem SlA.take {w : World} {ao : Option Addr} {n cap : Nat} {cs : List Value} (h : SlA w ao n cap cs) (m : Nat) (hm : m ≤ n) : SlA w ao m cap (cs.take m) := by
  obtain ⟨h1, h2, h3, h4⟩ := h
  refine ⟨by simp; omega, by omega, fun e => ?_, fun hn => ?_⟩
  · have := h3 e; omega
  · obtain ⟨b, off, e, hlt, hc⟩ := h4 (by omega)
    refine ⟨b, off, e, hlt, fun j hj => ?_⟩
    rw [List.getElem_take]
    exact hc j (by simp at hj; omega)
/-- The cell of the element k. -/
theorem SlA.at {w : World} {ao : Option Addr} {n cap : Nat} {cs : List Value} (h : SlA w ao n cap cs) (k : Nat) (hk : k < n) : ∃ b off, ao = some ⟨b, off, none⟩ ∧ b < w.heap.size ∧ ∃ h' : k < cs.length, w.cell? ⟨b, off + k, none⟩ = some cs[k] := by
  obtain ⟨h1, h2, h3, h4⟩ := h
  obtain ⟨b, off, e, hlt, hc⟩ := h4 (by omega)
  exact ⟨b, off, e, hlt, by omega, hc k (by omega)⟩
/-- The string of the element k. -/
theorem SlA.str {w : World} {ao : Option Addr} {n cap : Nat} {ss : List ByteArray} (h : SlA w ao n cap (ss.map Value.string)) (k : Nat) (hk : k < n) : ∃ b off, ao = some ⟨b, off, none⟩ ∧ b < w.heap.size ∧ ∃ h' : k < ss.length, w.cell? ⟨b, off + k, none⟩ = some (.string ss[k]) := by
  obtain ⟨b, off, e, hlt, h', hc⟩ := h.at k hk
  refine ⟨b, off, e, hlt, by simpa using h', ?_⟩
  simpa using hc
/-- A row of the call's own, as a slice. -/
theorem SlA.own {w : World} {base e g n cap : Nat} {cs : List Value} (h : w.ownsRow base e 1 (.slice (some ⟨g, 0, none⟩) n cap) n cs) : SlA w (some ⟨g, 0, none⟩) n cap cs := by
  have hl : cs.length = n := by have := h.1; simpa using this
  refine ⟨hl, ?_, (fun e => by cases e), fun hn => ⟨g, 0, rfl, ?_, fun j hj => ?_⟩⟩
  · rcases h.2 with ⟨h', _⟩ | ⟨g', cap', cur, h', _, _, hnc, _⟩
    · simp at h'
    · simp only [Value.slice.injEq, Option.some.injEq, Addr.mk.injEq, and_true, true_and] at h'
      omega
  · rcases h.2 with ⟨h', _⟩ | ⟨g', cap', cur, h', _, hg, _⟩
    · simp at h'
    · simp only [Value.slice.injEq, Option.some.injEq, Addr.mk.injEq, and_true, true_and] at h'
      obtain ⟨rfl, _⟩ := h'
      exact (Array.getElem?_eq_some_iff.1 hg).1
  · rw [Nat.zero_add, h.cellAt j (by omega), List.getElem?_eq_getElem hj]
theorem SlA.nil (w : World) : SlA w none 0 0 [] := ⟨rfl, Nat.le_refl _, fun _ => ⟨rfl, rfl⟩, fun h => absurd h (by omega)⟩
theorem below_drewN (B : Nat) (w : World) (k : Nat) : Below B w (w.drewN k) := ⟨rfl, rfl, rfl, Nat.le_refl _, fun _ _ => rfl⟩
theorem ret_bool {a b : Bool} (h : a = b) : Ending.returned (.bool a) = .returned (.bool b) := by rw [h]
theorem ret_int {k : IntKind} {a b : Int} (h : a = b) : Ending.returned (.int k a) = .returned (.int k b) := by rw [h]
end Go.Proofs.Qxb6601734a
