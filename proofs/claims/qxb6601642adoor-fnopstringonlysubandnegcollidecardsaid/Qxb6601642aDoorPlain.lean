/-
  The plain mathematics of the operators' names: lists of bytes alone.
-/
import Derived.Lib.ItoaNum
namespace Go.Proofs.Qxb6601642aDoor.Pl

/-! ### A numeral tells its number -/
def val (l : List UInt8) : Nat := l.foldl (fun n d => 10 * n + (d.toNat - 48)) 0
theorem val_snoc (l : List UInt8) (d : UInt8) : val (l ++ [d]) = 10 * val l + (d.toNat - 48) := by
  unfold val; rw [List.foldl_append]; rfl
theorem digit_nat (u : Nat) (h : u < 10) : (UInt8.ofNat (48 + u)).toNat = 48 + u := by
  simp; omega
theorem val_dec : ∀ (n u : Nat), u ≤ n → val (Lib.decDigits u) = u
  | 0, u, h => by
    obtain rfl : u = 0 := by omega
    rw [Lib.decDigits]; simp [val]
  | n + 1, u, h => by
    rw [Lib.decDigits]
    split
    · rename_i h'
      show val ([] ++ [_]) = u
      rw [val_snoc, digit_nat u h']
      simp [val]
    · rw [val_snoc, val_dec n (u / 10) (by omega), digit_nat _ (by omega)]
      omega
theorem dec_inj {u v : Nat} (h : Lib.decDigits u = Lib.decDigits v) : u = v := by
  have := congrArg val h
  rwa [val_dec u u (Nat.le_refl _), val_dec v v (Nat.le_refl _)] at this
theorem dec_head : ∀ (n u : Nat), u ≤ n → (Lib.decDigits u).head? ≠ some 45
  | 0, u, h => by
    obtain rfl : u = 0 := by omega
    rw [Lib.decDigits]; simp
  | n + 1, u, h => by
    rw [Lib.decDigits]
    split
    · rename_i h'
      intro e
      simp only [List.head?_cons, Option.some.injEq] at e
      have := congrArg UInt8.toNat e
      rw [digit_nat u h'] at this
      simp at this
      omega
    · have ih := dec_head n (u / 10) (by omega)
      cases hd : Lib.decDigits (u / 10) with
      | nil =>
        intro e
        simp only [List.nil_append, List.head?_cons, Option.some.injEq] at e
        have := congrArg UInt8.toNat e
        rw [digit_nat _ (by omega)] at this
        simp at this
        omega
      | cons c r => rw [hd] at ih; simpa using ih
theorem itoa_inj {a b : Int} (h : Lib.itoa a = Lib.itoa b) : a = b := by
  unfold Lib.itoa at h
  split at h
  · split at h
    · have := dec_inj (List.cons.inj h).2
      omega
    · have := dec_head b.toNat b.toNat (Nat.le_refl _)
      rw [← h] at this
      exact absurd rfl this
  · split at h
    · have := dec_head a.toNat a.toNat (Nat.le_refl _)
      rw [h] at this
      exact absurd rfl this
    · have := dec_inj h
      omega

/-! ### The names -/
def tab : List (List UInt8) := [[43], [45], [42], [37], [61], [60, 62], [60], [60, 61], [62], [62, 61], [65, 78, 68], [79, 82], [45], [78, 79, 84], [66, 73, 78, 65, 82, 89], [124, 124]]
def name (n : Int) : List UInt8 := if 0 ≤ n ∧ n < 16 then tab.getD n.toNat [] else [79, 112, 40] ++ Lib.itoa n ++ [41]
theorem name_in (n : Int) (h : 0 ≤ n ∧ n < 16) : name n = tab.getD n.toNat [] := by unfold name; rw [if_pos h]
theorem name_out (n : Int) (h : ¬ (0 ≤ n ∧ n < 16)) : name n = [79, 112, 40] ++ Lib.itoa n ++ [41] := by unfold name; rw [if_neg h]
theorem tab_tab : ∀ i, i < 16 → ∀ j, j < 16 → (tab.getD i [] = tab.getD j [] ↔ i = j ∨ ((i = 1 ∨ i = 12) ∧ (j = 1 ∨ j = 12))) := by decide
theorem tab_out : ∀ i, i < 16 → (tab.getD i []).take 2 ≠ [79, 112] := by decide
theorem out_take (n : Int) : ([79, 112, 40] ++ Lib.itoa n ++ [41]).take 2 = [79, 112] := by simp
theorem names_law (a b : Int) : name a = name b ↔ a = b ∨ ((a = 1 ∨ a = 12) ∧ (b = 1 ∨ b = 12)) := by
  by_cases ha : 0 ≤ a ∧ a < 16
  · by_cases hb : 0 ≤ b ∧ b < 16
    · rw [name_in a ha, name_in b hb, tab_tab a.toNat (by omega) b.toNat (by omega)]
      omega
    · rw [name_in a ha, name_out b hb]
      constructor
      · intro e
        have h1 := tab_out a.toNat (by omega)
        rw [e, out_take] at h1
        exact absurd rfl h1
      · intro e; omega
  · by_cases hb : 0 ≤ b ∧ b < 16
    · rw [name_out a ha, name_in b hb]
      constructor
      · intro e
        have h1 := tab_out b.toNat (by omega)
        rw [← e, out_take] at h1
        exact absurd rfl h1
      · intro e; omega
    · rw [name_out a ha, name_out b hb]
      constructor
      · intro e
        refine .inl (itoa_inj ?_)
        have := List.append_cancel_right e
        exact List.append_cancel_left this
      · intro e
        have : a = b := by omega
        rw [this]
end Go.Proofs.Qxb6601642aDoor.Pl
