/-
  The proof of 'Rows.FnRuleFromPrefixGrowsByAppendingSaid'.
-/
import Derived.Test.Qxb6601734aLaw4
import Derived.Test.Qxb6601734aView
namespace Go.Proofs.Qxb6601734a.fnRuleFromPrefixGrowsByAppending
open Go.ChangeShapes Go.WideShapes Go.ChangeAt Go.RowKit
open Go.ChangeMaps (open_string shut_string)

theorem int_in {n : Int} (h : (Lit.int .i64 n).wf = true) : -9223372036854775808 ≤ n ∧ n ≤ 9223372036854775807 := by
  simp [Lit.wf] at h
  have e1 : IntKind.i64.min = -9223372036854775808 := by decide
  have e2 : IntKind.i64.max = 9223372036854775807 := by decide
  omega
theorem own : ownKnob Try.prog.godebug = none := by kernel_rfl

set_option maxHeartbeats 1000000 in
set_option maxRecDepth 100000 in
theorem lifted (os : Os) (started : os.Started) (H : Type) (enc : TypeId × Value → H) :
    ReturnsInHanded {} Try.checked os 4 .any (Rows.fnRuleFromPrefixGrowsByAppendingSpec.pre6 enc Try.prog Try.f4 Rows.fnRuleFromPrefixGrowsByAppendingRow.domain false) (Rows.fnRuleFromPrefixGrowsByAppendingSpec.post enc Try.prog Try.f4 false true false false) := by
  refine returnsInHanded_of_change (C := Try.checked) own started (by kernel_rfl) Try.func4
    (ChangeSpec.witness6 (enc := enc) (C := Try.checked) false ⟨#[], #[.string ByteArray.empty, .slice none 0 0, .slice none 0 0, .slice none 0 0, .slice none 0 0, .slice none 0 0, .slice none 0 0, .int .i64 0], []⟩ 8 (by kernel_rfl) (by kernel_rfl) (by kernel_rfl) (by kernel_rfl)) ?_
  intro W base args ds gs before hval0 hW hcnd _
  have hval : ∀ (j : Nat) t v, Try.f4.params[j]? = some t → args[j]? = some v → Value.okWide Try.prog W .any base t v := hval0
  have hW' := hW
  obtain ⟨p, q, hA0, hV, rfl, hfz, hnd⟩ := hW
  have hA : DataW.TrodAll enc Try.prog W 0 (fun _ => true) true Try.f4.params.toList args.toList ds p := hA0
  rw [Try.params4] at hA hval
  obtain ⟨v0, vs0, d0, ds0, p0, q0, hargs, rfl, rfl, h0, r0⟩ := trodAll_cons hA
  obtain ⟨v1, vs1, d1, ds1, p1, q1, rfl, rfl, rfl, h1, r1⟩ := trodAll_cons r0
  obtain ⟨v2, vs2, d2, ds2, p2, q2, rfl, rfl, rfl, h2, r2⟩ := trodAll_cons r1
  obtain ⟨v3, vs3, d3, ds3, p3, q3, rfl, rfl, rfl, h3, r3⟩ := trodAll_cons r2
  obtain ⟨v4, vs4, d4, ds4, p4, q4, rfl, rfl, rfl, h4, r4⟩ := trodAll_cons r3
  obtain ⟨v5, vs5, d5, ds5, p5, q5, rfl, rfl, rfl, h5, r5⟩ := trodAll_cons r4
  obtain ⟨v6, vs6, d6, ds6, p6, q6, rfl, rfl, rfl, h6, r6⟩ := trodAll_cons r5
  obtain ⟨v7, vs7, d7, ds7, p7, q7, rfl, rfl, rfl, h7, r7⟩ := trodAll_cons r6
  obtain ⟨rfl, rfl, rfl⟩ := trodAll_nil r7
  obtain rfl : args = #[v0, v1, v2, v3, v4, v5, v6, v7] := by cases args; simp_all
  obtain ⟨rfl, rfl⟩ := trodVars_none hV
  clear hA0 hval0 hA hargs
  simp only [List.append_nil] at hW'
  have hlt := hW'.lt
  have k1 := h1
  have k2 := h2
  have k3 := h3
  have k4 := h4
  have k5 := h5
  have k6 := h6
  obtain ⟨a0, rfl, rfl, rfl, w0⟩ := open_string Try.underlying9 (hval 0 9 v0 rfl rfl) h0
  obtain ⟨o1, n1, c1, rfl, s1, S1⟩ := view_strings (hval 1 22 v1 rfl rfl) h1
  obtain ⟨o2, n2, c2, rfl, s2, S2⟩ := view_strings (hval 2 22 v2 rfl rfl) h2
  obtain ⟨o3, n3, c3, rfl, s3, S3⟩ := view_strings (hval 3 22 v3 rfl rfl) h3
  obtain ⟨o4, n4, c4, rfl, s4, S4⟩ := view_ints (hval 4 23 v4 rfl rfl) h4
  obtain ⟨o5, n5, c5, rfl, s5, S5⟩ := view_bools (hval 5 24 v5 rfl rfl) h5
  obtain ⟨o6, n6, c6, rfl, s6, S6⟩ := view_bools (hval 6 24 v6 rfl rfl) h6
  obtain ⟨a7, rfl, rfl, rfl, w7⟩ := open_int Try.underlying3 (hval 7 3 v7 rfl rfl) h7
  refine (law4_walk a0 o1 o2 o3 o4 o5 o6 n1 c1 n2 c2 n3 c3 n4 c4 n5 c5 n6 c6 a7 (int_in w7) s1 s2 s3 s4 s5 s6 W S1 S2 S3 S4 S5 S6).mono fun e W' ⟨he, hg⟩ => ?_
  subst he
  exact ⟨_, rfl, post_of_below (pv := []) hW' (fun _ _ _ => (trodAll_cons_mk (shut_bool Try.underlying4 _) trodAll_mk0))
    (trodAll_cons_mk (shut_string Try.underlying9 w0) (trodAll_cons_mk (Below.trod Try.laidOut (by kernel_rfl) (of_decide_eq_true (by kernel_rfl)) k1 hg (fun x hx => hlt x (by simp [hx]))) (trodAll_cons_mk (Below.trod Try.laidOut (by kernel_rfl) (of_decide_eq_true (by kernel_rfl)) k2 hg (fun x hx => hlt x (by simp [hx]))) (trodAll_cons_mk (Below.trod Try.laidOut (by kernel_rfl) (of_decide_eq_true (by kernel_rfl)) k3 hg (fun x hx => hlt x (by simp [hx]))) (trodAll_cons_mk (Below.trod Try.laidOut (by kernel_rfl) (of_decide_eq_true (by kernel_rfl)) k4 hg (fun x hx => hlt x (by simp [hx]))) (trodAll_cons_mk (Below.trod Try.laidOut (by kernel_rfl) (of_decide_eq_true (by kernel_rfl)) k5 hg (fun x hx => hlt x (by simp [hx]))) (trodAll_cons_mk (Below.trod Try.laidOut (by kernel_rfl) (of_decide_eq_true (by kernel_rfl)) k6 hg (fun x hx => hlt x (by simp [hx]))) (trodAll_cons_mk (shut_int Try.underlying3 w7) trodAll_mk0))))))))
    (fun _ => rfl) hg⟩

theorem over : Rows.fnRuleFromPrefixGrowsByAppendingRow.holds Try.pinned (OpenSpec.ofChange Rows.fnRuleFromPrefixGrowsByAppendingSpec) :=
  OpenClaim.holds_of_wide 4 Try.f4 rfl rfl rfl rfl rfl rfl rfl ⟨rfl, rfl, rfl, rfl, rfl⟩ rfl rfl rfl rfl rfl (by kernel_rfl) Try.func4 (by kernel_rfl)
    (of_decide_eq_true (by kernel_rfl)) (by unfold Func.isWrapper; first | (rw [if_pos (by decide +kernel)]; kernel_rfl) | (rw [if_neg (by decide +kernel)]; exact ⟨rfl, rfl⟩))
    (fun os started H enc _ => lifted os started H enc)
end Go.Proofs.Qxb6601734a.fnRuleFromPrefixGrowsByAppending

namespace Go.Proofs.Qxb6601734a
/-- THE STATEMENT. -/
theorem fnRuleFromPrefixGrowsByAppending_proved : Rows.FnRuleFromPrefixGrowsByAppendingSaid := fnRuleFromPrefixGrowsByAppending.over
end Go.Proofs.Qxb6601734a
