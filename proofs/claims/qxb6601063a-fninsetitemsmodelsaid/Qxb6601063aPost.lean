/-
  From 'Below' (nothing that was there before the call has turned) to the row's closing condition, where the row has no 'again'.
-/
import Derived.Test.Qxb6601063aRows
import Derived.WalkKit
import Derived.ProofKit
namespace Go.Proofs.Qxb6601063a
open Go.ChangeShapes Go.WideShapes Go.ChangeAt Go.RowKit
theorem post_of_below {P : Program} {H : Type} {enc : TypeId × Value → H} {f : Func} {s : ChangeSpec} {apart fresh handsOn : Bool} {W W' : World} {args : Array Value} {v : Value} {ds gs : List (DataW H)} {before pa pv : List MemPlace}
    (hW : DataW.Whole enc P f.params.toList s.vars apart W args.toList ds gs before)
    (hres : ∀ (b : Nat) (sp : Nat → Bool) (hd : Bool), DataW.TrodAll enc P W' b sp hd f.resultTypes.toList (v.resultList f.resultTypes.size) (s.fn H (ds ++ gs)).results [])
    (hargs : ∀ sp : Nat → Bool, (∀ p ∈ before, sp p.block = true) → DataW.TrodAll enc P W' 0 sp true f.params.toList args.toList (s.fn H (ds ++ gs)).args pa)
    (hvars : ∀ sp : Nat → Bool, (∀ p ∈ before, sp p.block = true) → DataW.TrodVars enc P W' sp s.vars (s.fn H (ds ++ gs)).vars pv)
    (hb : Below W.heap.size W W') :
    s.post enc P f apart fresh handsOn false W args v W' := by
  have hold : ∀ p ∈ before, (fun b => decide (b < W.heap.size)) p.block = true := fun p hp => by simpa using hW.lt p hp
  exact ⟨ds, gs, before, [], pa, pv, hW, hres _ _ _, hargs _ hold, hvars _ hold, World.keptBut_mono (fun _ f => f.elim) (hb.frame (fun _ => False)), fun h => by cases h⟩
theorem byte_of {n : Int} (h : (Lit.int .u8 n).wf = true) : ∃ c : UInt8, n = (c.toNat : Int) := by
  have h2 : 0 ≤ n ∧ n < 256 := by
    simp [Lit.wf] at h
    have e1 : IntKind.u8.min = 0 := by decide
    have e2 : IntKind.u8.max = 255 := by decide
    omega
  refine ⟨UInt8.ofNat n.toNat, ?_⟩
  simp
  omega
end Go.Proofs.Qxb6601063a
