/-
  The walks: 'Op.String' and the law.
-/
import Derived.Test.Qxb6601642aDoorShelf
import Derived.Test.Qxb6601642aDoorPlain
import Derived.Lib.SmallJoins
import Derived.Lib.ItoaLen
import Derived.Outline
import Derived.WalkSpells
import Derived.WalkLawsBesides
namespace Go.Proofs.Qxb6601642aDoor
open Go.ChangeShapes Go.WideShapes Go.ChangeAt Go.RowKit

theorem tab_global : Tryd.prog.globalNamed tabName = some 0 := by kernel_rfl
theorem below_grow (w : World) (k : Nat) (os : Array Obj) : Below w.heap.size w (Sort.grow (w.drewN k) os) :=
  ⟨rfl, rfl, rfl, by show w.heap.size ≤ (w.heap ++ os).size; simp, fun i hi => by show (w.heap ++ os)[i]? = _; rw [Array.getElem?_append_left hi]⟩

/-- A named operator. -/
theorem string_in (n : Int) (h : 0 ≤ n ∧ n < 16) (w : World) :
    Calls Tryd.prog 4 #[.int .i64 n] w fun e w' => e = .returned (.string ⟨(Pl.name n).toArray⟩) ∧ w' = w := by
  rw [Pl.name_in n h]
  have h16 : n = 0 ∨ n = 1 ∨ n = 2 ∨ n = 3 ∨ n = 4 ∨ n = 5 ∨ n = 6 ∨ n = 7 ∨ n = 8 ∨ n = 9 ∨ n = 10 ∨ n = 11 ∨ n = 12 ∨ n = 13 ∨ n = 14 ∨ n = 15 := by omega
  clear h
  rcases h16 with rfl | rfl | rfl | rfl | rfl | rfl | rfl | rfl | rfl | rfl | rfl | rfl | rfl | rfl | rfl | rfl
  all_goals
    go_enter Tryd.func4, Tryd.ntmps4
    go_wp2
    go_ret
    exact ⟨rfl, rfl⟩
/-- Any other. -/
theorem string_rest (n : Int) (t : ByteArray) (ht : t.size ≤ 21) (h : n < 0 ∨ 16 ≤ n) (w : World)
    (HI : Hid (Calls Tryd.prog 5 #[.int .i64 n] w fun e w' => e = .returned (.string t) ∧ Below w.heap.size w w')) :
    Calls Tryd.prog 4 #[.int .i64 n] w fun e w' => e = .returned (.string (⟨#[79, 112, 40]⟩ ++ t ++ ⟨#[41]⟩)) ∧ Below w.heap.size w w' := by
  rcases h with h | h
  all_goals
    go_enter Tryd.func4, Tryd.ntmps4
    go_wp2_with (go_at_call 5; refine HI.out.mono ?_; rintro e w' ⟨rfl, hb⟩)
    go_ret
    exact ⟨rfl, hb⟩
theorem itoa_size (n : Int) (h0 : -9223372036854775808 ≤ n) (h1 : n ≤ 9223372036854775807) : (⟨(Lib.itoa n).toArray⟩ : ByteArray).size ≤ 21 := by
  have := Lib.itoa_length_le n h0 h1
  show ((Lib.itoa n).toArray).size ≤ 21
  simpa using this
theorem name_bytes (l : List UInt8) : (⟨#[79, 112, 40]⟩ ++ ⟨l.toArray⟩ ++ ⟨#[41]⟩ : ByteArray) = ⟨([79, 112, 40] ++ l ++ [41]).toArray⟩ := by
  apply ByteArray.ext
  rw [ByteArray.data_append, ByteArray.data_append]
  apply Array.ext'
  simp
/-- 'Op.String', whatever the operator. -/
theorem string_any (n : Int) (h0 : -9223372036854775808 ≤ n) (h1 : n ≤ 9223372036854775807) (w : World) (htab : Lib.TabIs Tryd.prog w tabName .u64 Lib.pow10Tab) :
    Calls Tryd.prog 4 #[.int .i64 n] w fun e w' => e = .returned (.string ⟨(Pl.name n).toArray⟩) ∧ Below w.heap.size w w' := by
  by_cases h : 0 ≤ n ∧ n < 16
  · refine (string_in n h w).mono ?_
    rintro e w' ⟨rfl, rfl⟩
    exact ⟨rfl, Below.refl _ _⟩
  · rw [Pl.name_out n h, ← name_bytes]
    refine string_rest n _ (itoa_size n h0 h1) (by omega) w ?_
    refine (itoa_any n h0 h1 w htab).mono ?_
    rintro e w' ⟨rfl, k, os, rfl⟩
    exact ⟨rfl, below_grow w k os⟩

/-- The law, the two names known. -/
theorem law_main (a b : Int) (s t : ByteArray) (w : World) (HL : Hid ((s.toList == t.toList) = decide (a = b ∨ ((a = 1 ∨ a = 12) ∧ (b = 1 ∨ b = 12)))))
    (HA : Hid (Calls Tryd.prog 4 #[.int .i64 a] w fun e w' => e = .returned (.string s) ∧ Below w.heap.size w w'))
    (HC : Hid (∀ w1, Below w.heap.size w w1 → Calls Tryd.prog 4 #[.int .i64 b] w1 fun e w' => e = .returned (.string t) ∧ Below w1.heap.size w1 w')) :
    Calls Tryd.prog 3 #[.int .i64 a, .int .i64 b] w fun e w' => e = .returned (.bool true) ∧ Below w.heap.size w w' := by
  go_enter Tryd.func3, Tryd.ntmps3
  go_wp2_with fail
  refine HA.out.mono ?_
  rintro e w1 ⟨rfl, hb1⟩
  go_wp2_with fail
  refine (HC.out _ hb1).mono ?_
  rintro e w2 ⟨rfl, hb2⟩
  have hb3 : Below w.heap.size w w2 := hb1.trans (hb2.mono hb1.size)
  have hl := HL.out
  clear HL HA HC hb1 hb2
  by_cases a1 : a = 1 ∨ a = 12
  · by_cases b1 : b = 1 ∨ b = 12
    · have hl' : (s.toList == t.toList) = true := hl.trans (decide_eq_true (by omega))
      clear hl
      rcases a1 with rfl | rfl
      all_goals
        rcases b1 with rfl | rfl
        all_goals
          go_wp2
          go_ret
          exact ⟨rfl, hb3⟩
    · have hl' : (s.toList == t.toList) = false := hl.trans (decide_eq_false (by omega))
      have n1 : (b == 1) = false := by simp; omega
      have n2 : (b == 12) = false := by simp; omega
      have n3 : ((1 : Int) == b) = false := by simp; omega
      have n4 : ((12 : Int) == b) = false := by simp; omega
      clear hl b1
      rcases a1 with rfl | rfl
      all_goals
        go_wp2
        go_ret
        exact ⟨rfl, hb3⟩
  · have n1 : (a == 1) = false := by simp; omega
    have n2 : (a == 12) = false := by simp; omega
    by_cases b1 : b = 1 ∨ b = 12
    · have hl' : (s.toList == t.toList) = false := hl.trans (decide_eq_false (by omega))
      clear hl a1
      rcases b1 with rfl | rfl
      all_goals
        go_wp2
        go_ret
        exact ⟨rfl, hb3⟩
    · by_cases e : a = b
      · have hl' : (s.toList == t.toList) = true := hl.trans (decide_eq_true (by omega))
        clear hl a1 b1
        subst e
        go_wp2
        go_ret
        exact ⟨rfl, hb3⟩
      · have hl' : (s.toList == t.toList) = false := hl.trans (decide_eq_false (by omega))
        have n3 : (b == 1) = false := by simp; omega
        have n4 : (b == 12) = false := by simp; omega
        have n5 : (a == b) = false := by simp; omega
        clear hl a1 b1 e
        go_wp2
        go_ret
        exact ⟨rfl, hb3⟩

theorem toList_mk (l : List UInt8) : (⟨l.toArray⟩ : ByteArray).toList = l := by
  simp
theorem names_bool (a b : Int) : (((⟨(Pl.name a).toArray⟩ : ByteArray).toList == (⟨(Pl.name b).toArray⟩ : ByteArray).toList)) = decide (a = b ∨ ((a = 1 ∨ a = 12) ∧ (b = 1 ∨ b = 12))) := by
  rw [toList_mk, toList_mk, Bool.eq_iff_iff, beq_iff_eq, decide_eq_true_eq]
  exact Pl.names_law a b
/-- The law. -/
theorem law_walk (a b : Int) (a0 : -9223372036854775808 ≤ a) (a1 : a ≤ 9223372036854775807) (b0 : -9223372036854775808 ≤ b) (b1 : b ≤ 9223372036854775807) (w : World) (htab : Lib.TabIs Tryd.prog w tabName .u64 Lib.pow10Tab) :
    Calls Tryd.prog 3 #[.int .i64 a, .int .i64 b] w fun e w' => e = .returned (.bool true) ∧ Below w.heap.size w w' :=
  law_main a b _ _ w (names_bool a b) (string_any a a0 a1 w htab) (fun w1 hb => string_any b b0 b1 w1 (Joins.tab_stays tab_global htab hb (Nat.le_refl _)))
end Go.Proofs.Qxb6601642aDoor
