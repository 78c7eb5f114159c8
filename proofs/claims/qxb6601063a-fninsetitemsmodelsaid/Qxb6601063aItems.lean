/-
  The plain mathematics of 'FnInSetItemsModel': the two texts read as a list of pairs.
-/
import Derived.Test.Qxb6601063aPlain
namespace Go.Proofs.Qxb6601063a.Pl

/-- The first k items. -/
def prs (lo hi : ByteArray) (k : Nat) : List (UInt8 × UInt8) := (lo.data.toList.zip hi.data.toList).take k
theorem prs_zero (lo hi : ByteArray) : prs lo hi 0 = [] := rfl
theorem prs_succ (lo hi : ByteArray) (k : Nat) (h1 : k < lo.size) (h2 : k < hi.size) : prs lo hi (k + 1) = prs lo hi k ++ [(lo[k], hi[k])] := by
  unfold prs
  rw [List.take_succ_eq_append_getElem (by simp; omega)]
  simp
  exact ⟨rfl, rfl⟩
theorem prs_head (lo hi : ByteArray) (m : Nat) (p : UInt8 × UInt8) (h : (prs lo hi m).head? = some p) : ∃ (_ : 0 < m) (h1 : 0 < lo.size), p.1 = lo[0] := by
  unfold prs at h
  cases m with
  | zero => simp at h
  | succ m =>
    rw [List.head?_take, if_neg (by omega), List.head?_eq_getElem?] at h
    obtain ⟨hz, e⟩ := List.getElem?_eq_some_iff.1 h
    simp at hz
    refine ⟨by omega, by omega, ?_⟩
    rw [← e]
    simp
    rfl

/-- What the guard for plain texts has seen of the first k items. -/
def tameTo (lo hi : ByteArray) (k : Nat) : Prop := ∀ p ∈ prs lo hi k, p.1 ≠ 92 ∧ p.1 ≠ 45 ∧ p.2 ≠ 92 ∧ p.2 ≠ 45
theorem tameTo_zero (lo hi : ByteArray) : tameTo lo hi 0 := fun p hp => by rw [prs_zero] at hp; cases hp
theorem tameTo_succ (lo hi : ByteArray) (k : Nat) (h1 : k < lo.size) (h2 : k < hi.size) (h : tameTo lo hi k)
    (a : ((lo[k].toNat : Int) == 92) = false) (b : ((lo[k].toNat : Int) == 45) = false) (c : ((hi[k].toNat : Int) == 92) = false) (d : ((hi[k].toNat : Int) == 45) = false) : tameTo lo hi (k + 1) := by
  intro p hp
  rw [prs_succ lo hi k h1 h2, List.mem_append] at hp
  rcases hp with hp | hp
  · exact h p hp
  · simp at hp
    subst hp
    exact ⟨byte_not _ 92 (by omega) a, byte_not _ 45 (by omega) b, byte_not _ 92 (by omega) c, byte_not _ 45 (by omega) d⟩
def Tame2 (lo hi : ByteArray) (m : Nat) (neg plain : Bool) : Prop := tame plain (prs lo hi m) ∧ (plain = true → neg = false → ∀ p, (prs lo hi m).head? = some p → p.1 ≠ 94)
theorem Tame2_esc (lo hi : ByteArray) (m : Nat) (neg : Bool) : Tame2 lo hi m neg false := ⟨(fun e => by cases e), (fun e => by cases e)⟩
theorem Tame2_neg (lo hi : ByteArray) (m : Nat) (h : tameTo lo hi m) : Tame2 lo hi m true true := ⟨fun _ => h, (fun _ e => by cases e)⟩
theorem Tame2_none (lo hi : ByteArray) (neg : Bool) : Tame2 lo hi 0 neg true := ⟨fun _ => tameTo_zero lo hi, fun _ _ p h => by rw [prs_zero] at h; cases h⟩
theorem Tame2_pos (lo hi : ByteArray) (m : Nat) (neg : Bool) (h1 : 0 < lo.size) (h : tameTo lo hi m) (h94 : ((lo[0].toNat : Int) == 94) = false) : Tame2 lo hi m neg true :=
  ⟨fun _ => h, fun _ _ p hp => by
    obtain ⟨_, _, e⟩ := prs_head lo hi m p hp
    rw [e]
    exact byte_not _ 94 (by omega) h94⟩

/-- The text of the first k items. -/
def txt (lo hi : ByteArray) (neg plain : Bool) (k : Nat) : List UInt8 := (if neg then [94] else []) ++ encAll plain (prs lo hi k)
theorem txt_zero (lo hi : ByteArray) (neg plain : Bool) : txt lo hi neg plain 0 = if neg then [94] else [] := by
  unfold txt; rw [prs_zero]; simp [encAll]
theorem txt_succ (lo hi : ByteArray) (neg plain : Bool) (k : Nat) (h1 : k < lo.size) (h2 : k < hi.size) : txt lo hi neg plain (k + 1) = txt lo hi neg plain k ++ enc plain (lo[k], hi[k]) := by
  unfold txt
  rw [prs_succ lo hi k h1 h2, encAll_app]
  simp [encAll]
theorem txt_plain_eq (lo hi : ByteArray) (neg : Bool) (k : Nat) (h1 : k < lo.size) (h2 : k < hi.size) (e : ((hi[k].toNat : Int) != lo[k].toNat) = false) : txt lo hi neg true (k + 1) = txt lo hi neg true k ++ [lo[k]] := by
  have e' : hi[k] = lo[k] := by simp at e; apply UInt8.toNat.inj; omega
  rw [txt_succ lo hi neg true k h1 h2]; simp [enc, enc1, e']
theorem ne_of (x y : UInt8) (e : ((x.toNat : Int) != y.toNat) = true) : x ≠ y := by
  intro h; subst h; simp at e
theorem txt_plain_ne (lo hi : ByteArray) (neg : Bool) (k : Nat) (h1 : k < lo.size) (h2 : k < hi.size) (e : ((hi[k].toNat : Int) != lo[k].toNat) = true) : txt lo hi neg true (k + 1) = txt lo hi neg true k ++ [lo[k]] ++ [45] ++ [hi[k]] := by
  rw [txt_succ lo hi neg true k h1 h2]; simp [enc, enc1, ne_of _ _ e]
theorem txt_esc_eq (lo hi : ByteArray) (neg : Bool) (k : Nat) (h1 : k < lo.size) (h2 : k < hi.size) (e : ((hi[k].toNat : Int) != lo[k].toNat) = false) : txt lo hi neg false (k + 1) = txt lo hi neg false k ++ [92] ++ [lo[k]] := by
  have e' : hi[k] = lo[k] := by simp at e; apply UInt8.toNat.inj; omega
  rw [txt_succ lo hi neg false k h1 h2]; simp [enc, enc1, e']
theorem txt_esc_ne (lo hi : ByteArray) (neg : Bool) (k : Nat) (h1 : k < lo.size) (h2 : k < hi.size) (e : ((hi[k].toNat : Int) != lo[k].toNat) = true) : txt lo hi neg false (k + 1) = txt lo hi neg false k ++ [92] ++ [lo[k]] ++ [45] ++ [92] ++ [hi[k]] := by
  rw [txt_succ lo hi neg false k h1 h2]; simp [enc, enc1, ne_of _ _ e]

/-- Does one of the first k items hold b? -/
def some1 (lo hi : ByteArray) (b : Int) (k : Nat) : Bool := (prs lo hi k).any fun p => hit p.1.toNat p.2.toNat b
theorem some1_zero (lo hi : ByteArray) (b : Int) : some1 lo hi b 0 = false := rfl
theorem some1_yes (lo hi : ByteArray) (b : Int) (k : Nat) (h1 : k < lo.size) (h2 : k < hi.size) (h : ((lo[k].toNat : Int) ≤ b ∧ b ≤ hi[k].toNat) ∨ ((hi[k].toNat : Int) ≤ b ∧ b ≤ lo[k].toNat)) : some1 lo hi b (k + 1) = true := by
  unfold some1
  rw [prs_succ lo hi k h1 h2, List.any_append]
  have : hit lo[k].toNat hi[k].toNat b = true := by unfold hit; exact decide_eq_true h
  simp [this]
theorem some1_no (lo hi : ByteArray) (b : Int) (k : Nat) (h1 : k < lo.size) (h2 : k < hi.size) (h : ¬ (((lo[k].toNat : Int) ≤ b ∧ b ≤ hi[k].toNat) ∨ ((hi[k].toNat : Int) ≤ b ∧ b ≤ lo[k].toNat))) : some1 lo hi b (k + 1) = some1 lo hi b k := by
  unfold some1
  rw [prs_succ lo hi k h1 h2, List.any_append]
  have : hit lo[k].toNat hi[k].toNat b = false := by unfold hit; exact decide_eq_false h
  simp [this]
/-- The law. -/
theorem items_all (lo hi : ByteArray) (neg plain : Bool) (b : Int) (m : Nat) (h : Tame2 lo hi m neg plain) : inSet (txt lo hi neg plain m) b = (some1 lo hi b m != neg) :=
  items_law plain neg b (prs lo hi m) h.1 h.2
end Go.Proofs.Qxb6601063a.Pl
