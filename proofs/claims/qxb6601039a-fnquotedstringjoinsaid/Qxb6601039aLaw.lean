/-
  The walk of the law 'FnQuotedStringJoin'.
-/
import Derived.Test.Qxb6601039aWalks
namespace Go.Proofs.Qxb6601039a
open Go.ChangeShapes Go.WideShapes Go.ChangeAt Go.RowKit

set_option maxHeartbeats 400000 in
theorem law_big (a0 : ByteArray) (a1 : ByteArray) (w0 : a0.size ≤ maxLen) (w1 : a1.size ≤ maxLen) (h : ¬ a0.size + a1.size ≤ 1048576) (w : World) :
    Calls Try.prog 5 #[.string a0, .string a1] w fun e w' => e = .returned (.bool true) ∧ Grown w w' := by
  have hB : ∀ w, Calls Try.prog 16 #[.string a0, .string a1] w fun e w' => e = .returned (.bool false) ∧ w' = w := fun w => by
    have := bytes_any a0 a1 w w0 w1
    rwa [decide_eq_false h] at this
  have HB : Hid (∀ w, Calls Try.prog 16 #[.string a0, .string a1] w fun e w' => e = .returned (.bool false) ∧ w' = w) := hB
  clear hB h
  go_enter Try.func5, Try.ntmps5
  go_wp2_with (go_at_call 16; refine (HB.out _).mono ?_; rintro e w' ⟨rfl, rfl⟩)
  go_ret
  exact ⟨rfl, Grown.refl _⟩

set_option maxHeartbeats 400000 in
theorem law_long (a0 : ByteArray) (a1 : ByteArray) (_h : a0.size + a1.size ≤ 1048576) (h2 : ¬ (a0.size ≤ 524288 ∧ a1.size ≤ 524288)) (w : World)
    (HB : Hid (∀ w, Calls Try.prog 16 #[.string a0, .string a1] w fun e w' => e = .returned (.bool true) ∧ w' = w)) :
    Calls Try.prog 5 #[.string a0, .string a1] w fun e w' => e = .returned (.bool true) ∧ Grown w w' := by
  by_cases h0 : a0.size ≤ 524288
  · have h1 : ¬ a1.size ≤ 524288 := by omega
    clear h2
    go_enter Try.func5, Try.ntmps5
    go_wp2_with (go_at_call 16; refine (HB.out _).mono ?_; rintro e w' ⟨rfl, rfl⟩)
    go_ret
    exact ⟨rfl, Grown.refl _⟩
  · clear h2
    go_enter Try.func5, Try.ntmps5
    go_wp2_with (go_at_call 16; refine (HB.out _).mono ?_; rintro e w' ⟨rfl, rfl⟩)
    go_ret
    exact ⟨rfl, Grown.refl _⟩

set_option maxHeartbeats 400000 in
theorem law_miss0 (a0 : ByteArray) (a1 : ByteArray) (h0 : a0.size ≤ 524288) (h1 : a1.size ≤ 524288) (w : World)
    (HB : Hid (∀ w, Calls Try.prog 16 #[.string a0, .string a1] w fun e w' => e = .returned (.bool true) ∧ w' = w))
    (HA : Hid (∀ w, Calls Try.prog 12 #[.string a0] w fun e w' => e = .returned (.bool false) ∧ w' = w)) :
    Calls Try.prog 5 #[.string a0, .string a1] w fun e w' => e = .returned (.bool true) ∧ Grown w w' := by
  go_enter Try.func5, Try.ntmps5
  go_wp2_with (first | (go_at_call 16; refine (HB.out _).mono ?_; rintro e w' ⟨rfl, rfl⟩) | (go_at_call 12; refine (HA.out _).mono ?_; rintro e w' ⟨rfl, rfl⟩))
  go_ret
  exact ⟨rfl, Grown.refl _⟩

set_option maxHeartbeats 400000 in
theorem law_miss1 (a0 : ByteArray) (a1 : ByteArray) (h0 : a0.size ≤ 524288) (h1 : a1.size ≤ 524288) (w : World)
    (HB : Hid (∀ w, Calls Try.prog 16 #[.string a0, .string a1] w fun e w' => e = .returned (.bool true) ∧ w' = w))
    (HA : Hid (∀ w, Calls Try.prog 12 #[.string a0] w fun e w' => e = .returned (.bool true) ∧ w' = w))
    (HC : Hid (∀ w, Calls Try.prog 12 #[.string a1] w fun e w' => e = .returned (.bool false) ∧ w' = w)) :
    Calls Try.prog 5 #[.string a0, .string a1] w fun e w' => e = .returned (.bool true) ∧ Grown w w' := by
  go_enter Try.func5, Try.ntmps5
  go_wp2_with (go_at_call 16; refine (HB.out _).mono ?_; rintro e w' ⟨rfl, rfl⟩)
  refine (HA.out _).mono ?_
  rintro e w' ⟨rfl, rfl⟩
  go_wp2_with fail
  refine (HC.out _).mono ?_
  rintro e w' ⟨rfl, rfl⟩
  go_wp2_with fail
  go_ret
  exact ⟨rfl, Grown.refl _⟩

set_option maxHeartbeats 400000 in
theorem law_hit (a0 : ByteArray) (a1 : ByteArray) (h0 : a0.size ≤ 524288) (h1 : a1.size ≤ 524288) (h2 : 2 ≤ a0.size) (h3 : 2 ≤ a1.size) (w : World)
    (HB : Hid (∀ w, Calls Try.prog 16 #[.string a0, .string a1] w fun e w' => e = .returned (.bool true) ∧ w' = w))
    (HA : Hid (∀ w, Calls Try.prog 12 #[.string a0] w fun e w' => e = .returned (.bool true) ∧ w' = w))
    (HC : Hid (∀ w, Calls Try.prog 12 #[.string a1] w fun e w' => e = .returned (.bool true) ∧ w' = w))
    (HD : Hid (∀ w, Calls Try.prog 12 #[.string (a0.extract 0 (a0.size - 1) ++ a1.extract 1 a1.size)] w fun e w' => e = .returned (.bool true) ∧ w' = w)) :
    Calls Try.prog 5 #[.string a0, .string a1] w fun e w' => e = .returned (.bool true) ∧ Grown w w' := by
  go_enter Try.func5, Try.ntmps5
  go_wp2_with (go_at_call 16; refine (HB.out _).mono ?_; rintro e w' ⟨rfl, rfl⟩)
  refine (HA.out _).mono ?_
  rintro e w' ⟨rfl, rfl⟩
  go_wp2_with fail
  refine (HC.out _).mono ?_
  rintro e w' ⟨rfl, rfl⟩
  go_wp2_with fail
  go_quiet ((go_at_call 12; exact Calls.quiet_of_same (HD.out _)))
  go_wp2
  go_ret
  exact ⟨rfl, Grown.refl _⟩

theorem law_walk (a0 : ByteArray) (a1 : ByteArray) (w0 : a0.size ≤ maxLen) (w1 : a1.size ≤ maxLen) (w : World) :
    Calls Try.prog 5 #[.string a0, .string a1] w fun e w' => e = .returned (.bool true) ∧ Grown w w' := by
  by_cases h : a0.size + a1.size ≤ 1048576
  · have hB : ∀ w, Calls Try.prog 16 #[.string a0, .string a1] w fun e w' => e = .returned (.bool true) ∧ w' = w := fun w => by
      have := bytes_any a0 a1 w w0 w1
      rwa [decide_eq_true h] at this
    by_cases h2 : a0.size ≤ 524288 ∧ a1.size ≤ 524288
    · obtain ⟨h0, h1⟩ := h2
      have hA : ∀ w, Calls Try.prog 12 #[.string a0] w fun e w' => e = .returned (.bool (Pl.quoted a0)) ∧ w' = w := fun w => zzquoted_any a0 w (by omega)
      have hC : ∀ w, Calls Try.prog 12 #[.string a1] w fun e w' => e = .returned (.bool (Pl.quoted a1)) ∧ w' = w := fun w => zzquoted_any a1 w (by omega)
      cases q0 : Pl.quoted a0 with
      | false =>
        rw [q0] at hA
        exact law_miss0 a0 a1 h0 h1 w hB hA
      | true =>
        rw [q0] at hA
        cases q1 : Pl.quoted a1 with
        | false =>
          rw [q1] at hC
          exact law_miss1 a0 a1 h0 h1 w hB hA hC
        | true =>
          rw [q1] at hC
          have hsz : (a0.extract 0 (a0.size - 1) ++ a1.extract 1 a1.size).size ≤ 4194304 := by simp; omega
          have hD : ∀ w, Calls Try.prog 12 #[.string (a0.extract 0 (a0.size - 1) ++ a1.extract 1 a1.size)] w fun e w' => e = .returned (.bool true) ∧ w' = w := fun w => by
            have := zzquoted_any (a0.extract 0 (a0.size - 1) ++ a1.extract 1 a1.size) w hsz
            rwa [Pl.join_quoted a0 a1 q0 q1] at this
          exact law_hit a0 a1 h0 h1 (Pl.quoted_size _ q0) (Pl.quoted_size _ q1) w hB hA hC hD
    · exact law_long a0 a1 h h2 w hB
  · exact law_big a0 a1 w0 w1 h w
end Go.Proofs.Qxb6601039a
