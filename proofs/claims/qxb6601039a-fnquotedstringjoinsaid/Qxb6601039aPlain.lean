/-
  The plain mathematics of the quoted strings: lists of bytes alone.
-/
import Derived.Lib.Strings
namespace Go.Proofs.Qxb6601039a.Pl

/-- The text between the two quotes is in order: every quote and backslash is escaped. -/
def qin : List UInt8 → Bool
  | [] => true
  | [c] => !(c == 34) && !(c == 92)
  | c :: d :: r => if c == 34 then false else if c == 92 then qin r else qin (d :: r)

theorem qin_app : ∀ (x y : List UInt8), qin x = true → qin (x ++ y) = qin y
  | [], y, _ => rfl
  | [c], y, h => by
    simp only [qin, Bool.and_eq_true, Bool.not_eq_true'] at h
    cases y with
    | nil => simp [qin, h.1, h.2]
    | cons d r => simp [qin, h.1, h.2]
  | c :: d :: r, y, h => by
    have ih1 := qin_app r y
    have ih2 := qin_app (d :: r) y
    by_cases h1 : (c == 34) = true
    · simp [qin, h1] at h
    · by_cases h2 : (c == 92) = true
      · simp only [qin, h1, h2, if_true, if_false, Bool.false_eq_true] at h
        simp only [List.cons_append, qin, h1, h2, if_true, if_false, Bool.false_eq_true]
        exact ih1 h
      · simp only [qin, h1, h2, if_false, Bool.false_eq_true] at h
        simp only [List.cons_append, qin, h1, h2, if_false, Bool.false_eq_true]
        exact ih2 h

/-! One step of the loop, by the byte at k. -/
theorem qin_quote (l : List UInt8) (k : Nat) (h : k < l.length) (hc : l[k] = 34) : qin (l.drop k) = false := by
  rw [List.drop_eq_getElem_cons h, hc]
  cases l.drop (k + 1) <;> simp [qin]
theorem qin_slash_end (l : List UInt8) (k : Nat) (h : k + 1 = l.length) (hc : l[k]'(by omega) = 92) : qin (l.drop k) = false := by
  rw [List.drop_eq_getElem_cons (by omega), hc, List.drop_of_length_le (by omega)]
  simp [qin]
theorem qin_slash (l : List UInt8) (k : Nat) (h : k + 1 < l.length) (hc : l[k] = 92) : qin (l.drop k) = qin (l.drop (k + 2)) := by
  rw [List.drop_eq_getElem_cons (by omega), hc, List.drop_eq_getElem_cons (i := k + 1) (by omega)]
  simp [qin]
theorem qin_other (l : List UInt8) (k : Nat) (h : k < l.length) (h1 : l[k] ≠ 34) (h2 : l[k] ≠ 92) : qin (l.drop k) = qin (l.drop (k + 1)) := by
  rw [List.drop_eq_getElem_cons h]
  cases l.drop (k + 1) <;> simp [qin, h1, h2]

/-! The same steps at a byte array, the tests as the walk spells them. -/
theorem byte_is (c : UInt8) (n : Nat) (hn : n < 256) (h : ((c.toNat : Int) == (n : Int)) = true) : c = UInt8.ofNat n := by
  apply UInt8.toNat.inj
  rw [beq_iff_eq] at h
  simp; omega
theorem byte_not (c : UInt8) (n : Nat) (hn : n < 256) (h : ((c.toNat : Int) == (n : Int)) = false) : c ≠ UInt8.ofNat n := by
  intro e; subst e
  simp at h; omega
theorem st_quote (u : ByteArray) (k : Nat) (h : k < u.size) (hc : ((u[k].toNat : Int) == 34) = true) : qin (u.data.toList.drop k) = false :=
  qin_quote _ k (by simpa using h) (byte_is u[k] 34 (by omega) hc)
theorem st_end (u : ByteArray) (k : Nat) (h : k < u.size) (hc : ((u[k].toNat : Int) == 92) = true) (he : ((k : Int) == (u.size : Int) - 1) = true) : qin (u.data.toList.drop k) = false :=
  qin_slash_end _ k (by simp at he ⊢; omega) (byte_is u[k] 92 (by omega) hc)
theorem st_slash (u : ByteArray) (k : Nat) (h : k < u.size) (hc : ((u[k].toNat : Int) == 92) = true) (he : ((k : Int) == (u.size : Int) - 1) = false) : k + 2 ≤ u.size ∧ qin (u.data.toList.drop k) = qin (u.data.toList.drop (k + 2)) := by
  have e : k + 1 < u.size := by simp at he; omega
  exact ⟨by omega, qin_slash _ k (by simpa using e) (byte_is u[k] 92 (by omega) hc)⟩
theorem st_other (u : ByteArray) (k : Nat) (h : k < u.size) (h1 : ((u[k].toNat : Int) == 34) = false) (h2 : ((u[k].toNat : Int) == 92) = false) : qin (u.data.toList.drop k) = qin (u.data.toList.drop (k + 1)) :=
  qin_other _ k (by simpa using h) (byte_not u[k] 34 (by omega) h1) (byte_not u[k] 92 (by omega) h2)

/-- The first byte is a quote; the last byte is one. -/
def firstQ (s : ByteArray) : Bool := decide (1 ≤ s.size) && ((s.extract 0 1).toList == [34])
def lastQ (s : ByteArray) : Bool := decide (1 ≤ s.size) && ((s.extract (s.size - 1) s.size).toList == [34])
/-- What the Go text answers. -/
def quoted (s : ByteArray) : Bool := firstQ s && lastQ (s.extract 1 s.size) && qin (((s.extract 1 s.size).extract 0 ((s.extract 1 s.size).size - 1)).data.toList)

theorem quoted_of (s : ByteArray) (h1 : firstQ s = true) (h2 : lastQ (s.extract 1 s.size) = true) : quoted s = qin (((s.extract 1 s.size).extract 0 ((s.extract 1 s.size).size - 1)).data.toList) := by
  unfold quoted
  rw [h1, h2, Bool.true_and, Bool.true_and]
theorem quoted_miss1 (s : ByteArray) (h1 : firstQ s = false) : quoted s = false := by
  unfold quoted
  rw [h1, Bool.false_and, Bool.false_and]
theorem quoted_miss2 (s : ByteArray) (h2 : lastQ (s.extract 1 s.size) = false) : quoted s = false := by
  unfold quoted
  rw [h2, Bool.and_false, Bool.false_and]

theorem firstQ_iff (s : ByteArray) : firstQ s = true ↔ ∃ x, s.data.toList = 34 :: x := by
  have hz : s.data.toList.length = s.size := by simp
  unfold firstQ
  rw [Lib.extract_toList]
  cases h : s.data.toList with
  | nil => rw [h] at hz; simp at hz; simp
  | cons c x => rw [h] at hz; simp at hz; simp; omega
theorem lastQ_iff (s : ByteArray) : lastQ s = true ↔ ∃ x, s.data.toList = x ++ [34] := by
  have hz : s.data.toList.length = s.size := by simp
  unfold lastQ
  rw [Lib.extract_toList]
  rcases List.eq_nil_or_concat s.data.toList with h | ⟨x, c, h⟩
  · rw [h] at hz; simp at hz; simp [h]
  · rw [h] at hz ⊢
    simp only [List.concat_eq_append, List.length_append, List.length_cons, List.length_nil] at hz
    have e : s.size - 1 = x.length := by omega
    have e2 : s.size - x.length = 1 := by omega
    have e3 : 1 ≤ s.size := by omega
    rw [e, e2]
    simp [e3]
theorem quoted_iff (s : ByteArray) : quoted s = true ↔ ∃ x, s.data.toList = 34 :: (x ++ [34]) ∧ qin x = true := by
  unfold quoted
  rw [Bool.and_eq_true, Bool.and_eq_true, firstQ_iff, lastQ_iff]
  have e1 : (s.extract 1 s.size).data.toList = s.data.toList.drop 1 := by
    rw [Lib.extract_data, List.take_of_length_le (by simp)]
  have e2 : (s.extract 1 s.size).size = (s.data.toList.drop 1).length := by rw [← e1]; simp
  rw [Lib.extract_data (s.extract 1 s.size), e2, e1]
  constructor
  · rintro ⟨⟨⟨y, h⟩, x, hx⟩, hq⟩
    rw [h] at hx hq ⊢
    simp at hx hq
    subst hx
    refine ⟨x, rfl, ?_⟩
    simpa using hq
  · rintro ⟨x, h, hq⟩
    rw [h]
    exact ⟨⟨⟨_, rfl⟩, x, by simp⟩, by simpa using hq⟩

theorem quoted_size (s : ByteArray) (h : quoted s = true) : 2 ≤ s.size := by
  obtain ⟨x, hx, _⟩ := (quoted_iff s).1 h
  have : s.data.toList.length = s.size := by simp
  rw [hx] at this; simp at this; omega
/-- The law. -/
theorem join_quoted (a b : ByteArray) (ha : quoted a = true) (hb : quoted b = true) : quoted (a.extract 0 (a.size - 1) ++ b.extract 1 b.size) = true := by
  obtain ⟨x, hx, qx⟩ := (quoted_iff a).1 ha
  obtain ⟨y, hy, qy⟩ := (quoted_iff b).1 hb
  have za : a.data.toList.length = a.size := by simp
  have zb : b.data.toList.length = b.size := by simp
  refine (quoted_iff _).2 ⟨x ++ y, ?_, by rw [qin_app x y qx]; exact qy⟩
  have e : (a.extract 0 (a.size - 1) ++ b.extract 1 b.size).data.toList = (a.extract 0 (a.size - 1)).data.toList ++ (b.extract 1 b.size).data.toList := by
    rw [ByteArray.data_append, Array.toList_append]
  rw [e, Lib.extract_data, Lib.extract_data, hx, hy]
  rw [hx] at za; rw [hy] at zb
  simp at za zb
  have e1 : a.size - 1 = x.length + 1 := by omega
  have e2 : b.size - 1 = y.length + 1 := by omega
  rw [e1, e2, List.take_of_length_le (l := List.drop 1 (34 :: (y ++ [34]))) (by simp)]
  simp
end Go.Proofs.Qxb6601039a.Pl
