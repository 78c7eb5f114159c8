/-
  The plain mathematics of a rule's from-list: lists of texts alone.
-/
import Derived.Lib.Strings
namespace Go.Proofs.Qxb6601734a.Pl

/-- Is x among the texts? (by their bytes) -/
def has (ss : List ByteArray) (x : ByteArray) : Bool := ss.any fun s => x.toList == s.toList
theorem has_app (ss tt : List ByteArray) (x : ByteArray) : has (ss ++ tt) x = (has ss x || has tt x) := List.any_append
theorem has_one (s x : ByteArray) : has [s] x = (x.toList == s.toList) := by simp [has]
theorem has_zero (x : ByteArray) : has [] x = false := rfl
theorem take_at (ss : List ByteArray) (k : Nat) (h : k < ss.length) : ss.take (k + 1) = ss.take k ++ [ss[k]] := List.take_succ_eq_append_getElem h
theorem has_step (ss : List ByteArray) (k : Nat) (h : k < ss.length) (x : ByteArray) (h0 : has (ss.take k) x = false) (h1 : (x.toList == ss[k].toList) = false) : has (ss.take (k + 1)) x = false := by
  rw [take_at ss k h, has_app, h0, has_one, h1]; rfl
theorem has_hit (ss : List ByteArray) (k : Nat) (h : k < ss.length) (x : ByteArray) (h1 : (x.toList == ss[k].toList) = true) : has ss x = true :=
  List.any_eq_true.2 ⟨ss[k], List.getElem_mem h, h1⟩
theorem has_not (ss : List ByteArray) (k : Nat) (h : k < ss.length) (x : ByteArray) (h0 : has ss x = false) : (ss[k].toList == x.toList) = false := by
  cases e : (ss[k].toList == x.toList) with
  | false => rfl
  | true =>
    have e' : (x.toList == ss[k].toList) = true := by rw [beq_iff_eq] at e ⊢; exact e.symm
    rw [has_hit ss k h x e'] at h0
    cases h0
theorem has_full (ss : List ByteArray) (n : Nat) (h : ss.length ≤ n) (x : ByteArray) (h0 : has (ss.take n) x = false) : has ss x = false := by
  rwa [List.take_of_length_le h] at h0

/-- The from-list: each text once, in the order of its first coming. -/
def step (acc : List ByteArray) (x : ByteArray) : List ByteArray := if has acc x then acc else acc ++ [x]
def dd (ss : List ByteArray) : List ByteArray := ss.foldl step []
theorem dd_snoc (ss : List ByteArray) (k : Nat) (h : k < ss.length) : dd (ss.take (k + 1)) = step (dd (ss.take k)) ss[k] := by
  unfold dd; rw [take_at ss k h, List.foldl_append]; rfl
theorem step_hit {acc : List ByteArray} {x : ByteArray} (h : has acc x = true) : step acc x = acc := by unfold step; rw [if_pos h]
theorem step_miss {acc : List ByteArray} {x : ByteArray} (h : has acc x = false) : step acc x = acc ++ [x] := by unfold step; rw [if_neg (by rw [h]; exact Bool.false_ne_true)]
/-- What further texts add to a list are texts that it lacks. -/
theorem fold_adds : ∀ (l acc : List ByteArray), ∃ r, l.foldl step acc = acc ++ r ∧ (∀ x ∈ r, has acc x = false) ∧ r.length ≤ l.length ∧ ∀ x, has (acc ++ r) x = (has acc x || has l x)
  | [], acc => ⟨[], by simp, by simp, by simp, by simp [has]⟩
  | y :: l, acc => by
    cases h : has acc y with
    | true =>
      obtain ⟨r, e, h1, h2, h3⟩ := fold_adds l acc
      refine ⟨r, ?_, h1, by simp; omega, fun x => ?_⟩
      · rw [List.foldl_cons, step_hit h, e]
      · rw [h3 x]
        show _ = (has acc x || ((x.toList == y.toList) || has l x))
        cases hxy : (x.toList == y.toList) with
        | false => rw [Bool.false_or]
        | true =>
          have : has acc x = true := by
            unfold has at h ⊢
            rw [List.any_eq_true] at h ⊢
            obtain ⟨s, hs, e⟩ := h
            refine ⟨s, hs, ?_⟩
            rw [beq_iff_eq] at e hxy ⊢
            rw [hxy, e]
          rw [this]; rfl
    | false =>
      obtain ⟨r, e, h1, h2, h3⟩ := fold_adds l (acc ++ [y])
      refine ⟨y :: r, ?_, ?_, by simp; omega, fun x => ?_⟩
      · rw [List.foldl_cons, step_miss h, e]; simp
      · intro x hx
        rcases List.mem_cons.1 hx with rfl | hx
        · exact h
        · have := h1 x hx
          rw [has_app, Bool.or_eq_false_iff] at this
          exact this.1
      · have := h3 x
        rw [List.append_assoc] at this
        rw [show acc ++ y :: r = acc ++ ([y] ++ r) from rfl, this, has_app, has_one]
        show _ = (has acc x || ((x.toList == y.toList) || has l x))
        rw [Bool.or_assoc]
theorem dd_length (ss : List ByteArray) : (dd ss).length ≤ ss.length := by
  obtain ⟨r, e, _, h, _⟩ := fold_adds ss []
  unfold dd; rw [e]; simpa using h
theorem dd_has (ss : List ByteArray) (x : ByteArray) : has (dd ss) x = has ss x := by
  obtain ⟨r, e, _, _, h⟩ := fold_adds ss []
  unfold dd; rw [e, h x]; rfl
/-- THE FIRST LAW: the from-list of the first k is a beginning of the whole one's; what follows are texts that the first k lack. -/
theorem dd_grows (ss : List ByteArray) (k : Nat) : ∃ r, dd ss = dd (ss.take k) ++ r ∧ ∀ x ∈ r, has (ss.take k) x = false := by
  obtain ⟨r, e, h, _, _⟩ := fold_adds (ss.drop k) (dd (ss.take k))
  refine ⟨r, ?_, fun x hx => ?_⟩
  · rw [← e]
    unfold dd
    rw [← List.foldl_append, List.take_append_drop]
  · rw [← dd_has]; exact h x hx
theorem grows_same {L M ss : List ByteArray} (h : ∃ R, L = M ++ R ∧ ∀ x ∈ R, has ss x = false) (j : Nat) (h1 : j < M.length) (h2 : j < L.length) : L[j] = M[j] := by
  obtain ⟨R, rfl, _⟩ := h
  rw [List.getElem_append_left h1]
theorem grows_new {L M ss : List ByteArray} (h : ∃ R, L = M ++ R ∧ ∀ x ∈ R, has ss x = false) (j : Nat) (h1 : M.length ≤ j) (h2 : j < L.length) : has ss L[j] = false := by
  obtain ⟨R, rfl, hR⟩ := h
  rw [List.getElem_append_right h1]
  exact hR _ (List.getElem_mem _)
/-- Texts that are all different. -/
def Diff : List ByteArray → Prop
  | [] => True
  | x :: l => has l x = false ∧ Diff l
theorem has_comm1 (a b : ByteArray) : (a.toList == b.toList) = (b.toList == a.toList) := by
  rw [Bool.eq_iff_iff, beq_iff_eq, beq_iff_eq]; exact ⟨Eq.symm, Eq.symm⟩
theorem Diff_snoc : ∀ (l : List ByteArray) (x : ByteArray), Diff l → has l x = false → Diff (l ++ [x])
  | [], x, _, _ => ⟨rfl, trivial⟩
  | y :: l, x, h, hx => by
    have hx' : ((x.toList == y.toList) || has l x) = false := hx
    rw [Bool.or_eq_false_iff] at hx'
    refine ⟨?_, Diff_snoc l x h.2 hx'.2⟩
    show has (l ++ [x]) y = false
    rw [has_app, h.1, has_one, has_comm1, hx'.1]; rfl
theorem fold_diff : ∀ (l acc : List ByteArray), Diff acc → Diff (l.foldl step acc)
  | [], _, h => h
  | x :: l, acc, h => by
    rw [List.foldl_cons]
    refine fold_diff l _ ?_
    cases hx : has acc x with
    | true => rw [step_hit hx]; exact h
    | false => rw [step_miss hx]; exact Diff_snoc acc x h hx
theorem dd_diff (ss : List ByteArray) : Diff (dd ss) := fold_diff ss [] trivial
theorem fold_same : ∀ (l acc : List ByteArray), Diff (acc ++ l) → l.foldl step acc = acc ++ l
  | [], acc, _ => by simp
  | x :: l, acc, h => by
    have hx : has acc x = false := by
      clear fold_same
      induction acc with
      | nil => rfl
      | cons y acc ih =>
        have h1 : has (acc ++ x :: l) y = false := h.1
        rw [has_app, Bool.or_eq_false_iff] at h1
        have h2 : ((y.toList == x.toList) || has l y) = false := h1.2
        rw [Bool.or_eq_false_iff] at h2
        show ((x.toList == y.toList) || has acc x) = false
        rw [ih h.2, has_comm1, h2.1]; rfl
    rw [List.foldl_cons, step_miss hx, fold_same l (acc ++ [x]) (by simpa using h)]
    simp
/-- THE SECOND LAW: the from-list of a from-list is itself. -/
theorem dd_dd (ss : List ByteArray) : dd (dd ss) = dd ss := by
  exact fold_same (dd ss) [] (dd_diff ss)
end Go.Proofs.Qxb6601734a.Pl
