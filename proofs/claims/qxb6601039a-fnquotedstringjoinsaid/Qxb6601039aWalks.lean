import Derived.Test.Qxb6601039aRows
import Derived.Test.Qxb6601039aPlain
import Derived.WalkKit
import Derived.ProofKit
import Derived.Outline
import Derived.WalkSpells
import Derived.WalkLawsBesides
import Derived.Deep.QuietTactic
import Derived.BigQuiet
namespace Go.Proofs.Qxb6601039a
open Go.ChangeShapes Go.WideShapes Go.ChangeAt Go.RowKit

theorem cutp_yes (s : ByteArray) (w : World) (hs : s.size ≤ maxLen) (h : Pl.firstQ s = true) :
    Calls Try.prog 31 #[.string s, .string ⟨#[34]⟩] w fun e w' => e = .returned (.tuple #[.string (s.extract 1 s.size), .bool true]) ∧ w' = w := by
  unfold maxLen at hs
  unfold Pl.firstQ at h
  rw [Bool.and_eq_true, decide_eq_true_eq] at h
  obtain ⟨h1, h2⟩ := h
  go_enter Try.func31, Try.ntmps31
  go_wp2
  go_ret2
  exact ⟨rfl, rfl⟩
theorem cutp_no (s : ByteArray) (w : World) (hs : s.size ≤ maxLen) (h : Pl.firstQ s = false) :
    Calls Try.prog 31 #[.string s, .string ⟨#[34]⟩] w fun e w' => e = .returned (.tuple #[.string s, .bool false]) ∧ w' = w := by
  unfold maxLen at hs
  unfold Pl.firstQ at h
  by_cases h1 : 1 ≤ s.size
  · rw [decide_eq_true h1, Bool.true_and] at h
    go_enter Try.func31, Try.ntmps31
    go_wp2
    go_ret2
    exact ⟨rfl, rfl⟩
  · clear h
    go_enter Try.func31, Try.ntmps31
    go_wp2
    go_ret2
    exact ⟨rfl, rfl⟩
theorem cuts_yes (s : ByteArray) (w : World) (hs : s.size ≤ maxLen) (h : Pl.lastQ s = true) :
    Calls Try.prog 32 #[.string s, .string ⟨#[34]⟩] w fun e w' => e = .returned (.tuple #[.string (s.extract 0 (s.size - 1)), .bool true]) ∧ w' = w := by
  unfold maxLen at hs
  unfold Pl.lastQ at h
  rw [Bool.and_eq_true, decide_eq_true_eq] at h
  obtain ⟨h1, h2⟩ := h
  go_enter Try.func32, Try.ntmps32
  go_wp2
  go_ret2
  exact ⟨rfl, rfl⟩
theorem cuts_no (s : ByteArray) (w : World) (hs : s.size ≤ maxLen) (h : Pl.lastQ s = false) :
    Calls Try.prog 32 #[.string s, .string ⟨#[34]⟩] w fun e w' => e = .returned (.tuple #[.string s, .bool false]) ∧ w' = w := by
  unfold maxLen at hs
  unfold Pl.lastQ at h
  by_cases h1 : 1 ≤ s.size
  · rw [decide_eq_true h1, Bool.true_and] at h
    go_enter Try.func32, Try.ntmps32
    go_wp2
    go_ret2
    exact ⟨rfl, rfl⟩
  · clear h
    go_enter Try.func32, Try.ntmps32
    go_wp2
    go_ret2
    exact ⟨rfl, rfl⟩

theorem ret_bool {a b : Bool} (h : a = b) : Ending.returned (.bool a) = .returned (.bool b) := by rw [h]
set_option maxHeartbeats 400000 in
theorem quoted_loop (s t u : ByteArray) (w : World) (hu : u.size ≤ 4194304)
    (C1 : Hid (∀ w, Calls Try.prog 31 #[.string s, .string ⟨#[34]⟩] w fun e w' => e = .returned (.tuple #[.string t, .bool true]) ∧ w' = w))
    (C2 : Hid (∀ w, Calls Try.prog 32 #[.string t, .string ⟨#[34]⟩] w fun e w' => e = .returned (.tuple #[.string u, .bool true]) ∧ w' = w)) :
    Calls Try.prog 28 #[.string s] w fun e w' => e = .returned (.bool (Pl.qin u.data.toList)) ∧ w' = w := by
  go_enter Try.func28, Try.ntmps28
  go_wp2_with (first | (go_at_call 31; refine (C1.out _).mono ?_; rintro e w' ⟨rfl, rfl⟩) | (go_at_call 32; refine (C2.out _).mono ?_; rintro e w' ⟨rfl, rfl⟩))
  go_loop [6] (fun i => ∃ k : Nat, k ≤ u.size ∧ i = .int .i64 k ∧ Hid (Pl.qin (u.data.toList.drop k) = Pl.qin u.data.toList)) (fun i => u.size - (intOf i).toNat)
  case atStart => exact ⟨0, Nat.zero_le _, rfl, rfl⟩
  case round =>
    obtain ⟨k, hk, rfl, HQ⟩ := hrel
    by_cases hlt : k < u.size
    · go_wp2
      · go_ret
        exact ⟨ret_bool (by rw [← HQ.out]; exact (Pl.st_quote u k hlt ‹_›).symm), rfl⟩
      · go_ret
        exact ⟨ret_bool (by rw [← HQ.out]; exact (Pl.st_end u k hlt ‹_› ‹_›).symm), rfl⟩
      · have hst := Pl.st_slash u k hlt ‹_› ‹_›
        go_round
        case rel => exact ⟨k + 2, hst.1, by go_num, by rw [← HQ.out]; exact hst.2.symm⟩
        case measure => simp [intOf]; omega
      · have hst := Pl.st_other u k hlt ‹_› ‹_›
        go_round
        case rel => exact ⟨k + 1, by omega, by go_num, by rw [← HQ.out]; exact hst.symm⟩
        case measure => simp [intOf]; omega
    · go_wp2
      go_ret
      refine ⟨ret_bool ?_, rfl⟩
      rw [← HQ.out, List.drop_of_length_le (by simp; omega)]
      rfl

/-- The two cuts find not both quotes: false. -/
theorem quoted_no (s t u : ByteArray) (b1 b2 : Bool) (w : World) (hb : b1 = false ∨ b2 = false)
    (C1 : Hid (∀ w, Calls Try.prog 31 #[.string s, .string ⟨#[34]⟩] w fun e w' => e = .returned (.tuple #[.string t, .bool b1]) ∧ w' = w))
    (C2 : Hid (∀ w, Calls Try.prog 32 #[.string t, .string ⟨#[34]⟩] w fun e w' => e = .returned (.tuple #[.string u, .bool b2]) ∧ w' = w)) :
    Calls Try.prog 28 #[.string s] w fun e w' => e = .returned (.bool false) ∧ w' = w := by
  cases b1 with
  | false =>
    go_enter Try.func28, Try.ntmps28
    go_wp2_with (first | (go_at_call 31; refine (C1.out _).mono ?_; rintro e w' ⟨rfl, rfl⟩) | (go_at_call 32; refine (C2.out _).mono ?_; rintro e w' ⟨rfl, rfl⟩))
    go_ret
    exact ⟨rfl, rfl⟩
  | true =>
    obtain rfl : b2 = false := by simpa using hb
    go_enter Try.func28, Try.ntmps28
    go_wp2_with (first | (go_at_call 31; refine (C1.out _).mono ?_; rintro e w' ⟨rfl, rfl⟩) | (go_at_call 32; refine (C2.out _).mono ?_; rintro e w' ⟨rfl, rfl⟩))
    go_ret
    exact ⟨rfl, rfl⟩

theorem small {n : Nat} (h : n ≤ 4194304) : n ≤ maxLen := by unfold maxLen; omega
/-- 'quotedString' answers what the plain function says. -/
theorem quoted_any (s : ByteArray) (w : World) (hs : s.size ≤ 4194304) :
    Calls Try.prog 28 #[.string s] w fun e w' => e = .returned (.bool (Pl.quoted s)) ∧ w' = w := by
  have hz1 : (s.extract 1 s.size).size ≤ s.size := by simp
  have hz2 : ((s.extract 1 s.size).extract 0 ((s.extract 1 s.size).size - 1)).size ≤ s.size := by simp; omega
  cases h1 : Pl.firstQ s with
  | false =>
    rw [Pl.quoted_miss1 s h1]
    cases h2 : Pl.lastQ s with
    | false => exact quoted_no s s s false false w (.inl rfl) (fun w => cutp_no s w (small hs) h1) (fun w => cuts_no s w (small hs) h2)
    | true => exact quoted_no s s (s.extract 0 (s.size - 1)) false true w (.inl rfl) (fun w => cutp_no s w (small hs) h1) (fun w => cuts_yes s w (small hs) h2)
  | true =>
    cases h2 : Pl.lastQ (s.extract 1 s.size) with
    | false =>
      rw [Pl.quoted_miss2 s h2]
      exact quoted_no s (s.extract 1 s.size) (s.extract 1 s.size) true false w (.inr rfl) (fun w => cutp_yes s w (small hs) h1) (fun w => cuts_no _ w (small (by omega)) h2)
    | true =>
      rw [Pl.quoted_of s h1 h2]
      exact quoted_loop s (s.extract 1 s.size) ((s.extract 1 s.size).extract 0 ((s.extract 1 s.size).size - 1)) w (by omega) (fun w => cutp_yes s w (small hs) h1) (fun w => cuts_yes _ w (small (by omega)) h2)

theorem zzquoted_any (s : ByteArray) (w : World) (hs : s.size ≤ 4194304) :
    Calls Try.prog 12 #[.string s] w fun e w' => e = .returned (.bool (Pl.quoted s)) ∧ w' = w := by
  go_enter Try.func12, Try.ntmps12
  go_wp2_with (go_at_call 28; refine (quoted_any _ _ hs).mono ?_; rintro e w' ⟨rfl, rfl⟩)
  go_ret
  exact ⟨rfl, rfl⟩

/-- The bound on the total length. -/
theorem bytes_any (a b : ByteArray) (w : World) (ha : a.size ≤ maxLen) (hb : b.size ≤ maxLen) :
    Calls Try.prog 16 #[.string a, .string b] w fun e w' => e = .returned (.bool (decide (a.size + b.size ≤ 1048576))) ∧ w' = w := by
  unfold maxLen at ha hb
  by_cases h1 : a.size ≤ 1048576
  · by_cases h2 : b.size ≤ 1048576
    · by_cases h3 : a.size + b.size ≤ 1048576
      · rw [decide_eq_true h3]
        go_enter Try.func16, Try.ntmps16
        go_wp2
        go_ret
        exact ⟨rfl, rfl⟩
      · rw [decide_eq_false h3]
        go_enter Try.func16, Try.ntmps16
        go_wp2
        go_ret
        exact ⟨rfl, rfl⟩
    · rw [decide_eq_false (by omega)]
      go_enter Try.func16, Try.ntmps16
      go_wp2
      go_ret
      exact ⟨rfl, rfl⟩
  · rw [decide_eq_false (by omega)]
    go_enter Try.func16, Try.ntmps16
    go_wp2
    go_ret
    exact ⟨rfl, rfl⟩
end Go.Proofs.Qxb6601039a
