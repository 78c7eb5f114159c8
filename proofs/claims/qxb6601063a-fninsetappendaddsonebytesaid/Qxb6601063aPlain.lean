/-
  The plain mathematics of a set's text: lists of bytes alone.
-/
import Derived.Lib.Strings
namespace Go.Proofs.Qxb6601063a.Pl

/-- b lies between x and y, whichever is the lesser. -/
def hit (x y b : Int) : Bool := decide ((x ≤ b ∧ b ≤ y) ∨ (y ≤ b ∧ b ≤ x))
theorem hit_le {x y b : Int} (h : x ≤ y) : hit x y b = (decide (x ≤ b) && decide (b ≤ y)) := by
  unfold hit; rw [Bool.eq_iff_iff]; simp; omega
theorem hit_ge {x y b : Int} (h : y ≤ x) : hit x y b = (decide (y ≤ b) && decide (b ≤ x)) := by
  unfold hit; rw [Bool.eq_iff_iff]; simp; omega
theorem hit_self (x b : Int) : hit x x b = decide (b = x) := by
  unfold hit; rw [Bool.eq_iff_iff]; simp; omega
theorem hit_comm (x y b : Int) : hit x y b = hit y x b := by
  unfold hit; rw [Bool.eq_iff_iff]; simp; omega

/-- One byte, maybe escaped, c its first: the byte meant, and what is left. -/
def rd (c : UInt8) (r : List UInt8) : UInt8 × List UInt8 :=
  if c = 92 then (match r with | [] => (c, []) | d :: r' => (d, r')) else (c, r)
theorem rd_plain {c : UInt8} {r : List UInt8} (h : c ≠ 92) : rd c r = (c, r) := by simp [rd, h]
theorem rd_esc {d : UInt8} {r : List UInt8} : rd 92 (d :: r) = (d, r) := by simp [rd]
theorem rd_end : rd 92 [] = (92, []) := by simp [rd]
theorem rd_length (c : UInt8) (r : List UInt8) : (rd c r).2.length ≤ r.length := by
  unfold rd; split
  · cases r <;> simp
  · simp

/-- What may follow the first byte lo of an item, r being what is left: a range or none. -/
def tl (lo : UInt8) (r : List UInt8) : UInt8 × List UInt8 :=
  match r with
  | d :: e :: r2 => if d = 45 then rd e r2 else (lo, d :: e :: r2)
  | r1 => (lo, r1)
theorem tl_length (lo : UInt8) (r : List UInt8) : (tl lo r).2.length ≤ r.length := by
  unfold tl
  split
  · split
    · rename_i d e r2 _; have := rd_length e r2; simp; omega
    · simp
  · simp

/-- Some item of the text holds b. (n: fuel: the text's length serves.) -/
def scanN (b : Int) : Nat → List UInt8 → Bool
  | 0, _ => false
  | _ + 1, [] => false
  | n + 1, c :: r => hit (rd c r).1.toNat (tl (rd c r).1 (rd c r).2).1.toNat b || scanN b n (tl (rd c r).1 (rd c r).2).2
theorem scanN_fuel (b : Int) : ∀ (n m : Nat) (l : List UInt8), l.length ≤ n → l.length ≤ m → scanN b n l = scanN b m l
  | 0, 0, _, _, _ => rfl
  | 0, m + 1, l, h, _ => by
    obtain rfl : l = [] := List.eq_nil_of_length_eq_zero (by omega)
    rfl
  | n + 1, 0, l, _, h => by
    obtain rfl : l = [] := List.eq_nil_of_length_eq_zero (by omega)
    rfl
  | n + 1, m + 1, l, h1, h2 => by
    cases l with
    | nil => rfl
    | cons c r =>
      have e1 := rd_length c r
      have e2 := tl_length (rd c r).1 (rd c r).2
      simp at h1 h2
      simp only [scanN]
      rw [scanN_fuel b n m _ (by omega) (by omega)]
def scan (b : Int) (l : List UInt8) : Bool := scanN b l.length l
theorem scan_nil (b : Int) : scan b [] = false := rfl
theorem scan_cons (b : Int) (c : UInt8) (r : List UInt8) :
    scan b (c :: r) = (hit (rd c r).1.toNat (tl (rd c r).1 (rd c r).2).1.toNat b || scan b (tl (rd c r).1 (rd c r).2).2) := by
  have e1 := rd_length c r
  have e2 := tl_length (rd c r).1 (rd c r).2
  unfold scan
  simp only [List.length_cons, scanN]
  rw [scanN_fuel b r.length _ _ (by omega) (Nat.le_refl _)]

/-- What the Go text answers: s the set's text, b the byte. -/
def first94 (s : ByteArray) : Bool := decide (1 ≤ s.size) && ((s.extract 0 1).toList == [94])
def inSet (l : List UInt8) (b : Int) : Bool :=
  match l with
  | 94 :: r => !(scan b r)
  | r => scan b r
theorem first94_iff (s : ByteArray) : first94 s = true ↔ ∃ x, s.data.toList = 94 :: x := by
  have hz : s.data.toList.length = s.size := by simp
  unfold first94
  rw [Lib.extract_toList]
  cases h : s.data.toList with
  | nil => rw [h] at hz; simp at hz; simp
  | cons c x => rw [h] at hz; simp at hz; simp; omega
theorem extract_tail (s : ByteArray) : (s.extract 1 s.size).data.toList = s.data.toList.drop 1 := by
  rw [Lib.extract_data, List.take_of_length_le (by simp)]
theorem inSet_neg (s : ByteArray) (b : Int) (h : first94 s = true) : inSet s.data.toList b = !(scan b (s.extract 1 s.size).data.toList) := by
  obtain ⟨x, hx⟩ := (first94_iff s).1 h
  rw [extract_tail, hx]
  rfl
theorem inSet_pos (s : ByteArray) (b : Int) (h : first94 s = false) : inSet s.data.toList b = scan b s.data.toList := by
  have h' : ¬ ∃ x, s.data.toList = 94 :: x := fun e => by rw [(first94_iff s).2 e] at h; cases h
  unfold inSet
  split
  · rename_i r e; exact absurd ⟨r, e⟩ h'
  · rfl

/-! ### The steps of the loop -/
theorem byte_is (c : UInt8) (n : Nat) (hn : n < 256) (h : ((c.toNat : Int) == (n : Int)) = true) : c = UInt8.ofNat n := by
  apply UInt8.toNat.inj
  rw [beq_iff_eq] at h
  simp; omega
theorem byte_not (c : UInt8) (n : Nat) (hn : n < 256) (h : ((c.toNat : Int) == (n : Int)) = false) : c ≠ UInt8.ofNat n := by
  intro e; subst e
  simp at h; omega
theorem drop_at (u : ByteArray) (k : Nat) (h : k < u.size) : u.data.toList.drop k = u[k] :: u.data.toList.drop (k + 1) :=
  List.drop_eq_getElem_cons (by simpa using h)
theorem drop_end (u : ByteArray) (k : Nat) (h : u.size ≤ k) : u.data.toList.drop k = [] :=
  List.drop_of_length_le (by simpa using h)

/-- The byte at k is read (and the one behind it, if it is escaped): k1 is the last place read. -/
def Rd (u : ByteArray) (k : Nat) (c1 : UInt8) (k1 : Nat) : Prop :=
  k ≤ k1 ∧ k1 < u.size ∧ ∃ h : k < u.size, rd u[k] (u.data.toList.drop (k + 1)) = (c1, u.data.toList.drop (k1 + 1))
theorem Rd_plain (u : ByteArray) (k : Nat) (h : k < u.size) (hc : ((u[k].toNat : Int) == 92) = false) : Rd u k u[k] k :=
  ⟨Nat.le_refl _, h, h, rd_plain (byte_not _ 92 (by omega) hc)⟩
theorem Rd_end (u : ByteArray) (k : Nat) (h : k < u.size) (hc : ((u[k].toNat : Int) == 92) = true) (he : u.size ≤ k + 1) : Rd u k u[k] k := by
  refine ⟨Nat.le_refl _, h, h, ?_⟩
  rw [byte_is _ 92 (by omega) hc, drop_end u _ he]
  rfl
theorem Rd_esc (u : ByteArray) (k : Nat) (h : k + 1 < u.size) (hc : ((u[k].toNat : Int) == 92) = true) : Rd u k u[k + 1] (k + 1) := by
  refine ⟨by omega, h, by omega, ?_⟩
  rw [byte_is _ 92 (by omega) hc, drop_at u (k + 1) h]
  rfl

theorem Rd_miss (u : ByteArray) (k : Nat) (h : k < u.size) (he : false = (((u[k].toNat : Int) == 92) && decide ((k : Int) + 1 < (u.size : Int)))) : Rd u k u[k] k := by
  cases hc : ((u[k].toNat : Int) == 92) with
  | false => exact Rd_plain u k h hc
  | true =>
    rw [hc] at he
    simp at he
    exact Rd_end u k h hc (by omega)
theorem Rd_hit (u : ByteArray) (k : Nat) (h : k < u.size) (he : true = (((u[k].toNat : Int) == 92) && decide ((k : Int) + 1 < (u.size : Int)))) : ∃ h' : k + 1 < u.size, Rd u k u[k + 1] (k + 1) := by
  have he := he.symm
  rw [Bool.and_eq_true, decide_eq_true_eq] at he
  exact ⟨by omega, Rd_esc u k (by omega) he.1⟩

/-- Behind the first byte c1, k1 its last place: the range's other end c2, k2 the last place read. -/
def Tl (u : ByteArray) (c1 : UInt8) (k1 : Nat) (c2 : UInt8) (k2 : Nat) : Prop :=
  k1 ≤ k2 ∧ k2 < u.size ∧ tl c1 (u.data.toList.drop (k1 + 1)) = (c2, u.data.toList.drop (k2 + 1))
theorem Tl_short (u : ByteArray) (c1 : UInt8) (k1 : Nat) (h : k1 < u.size) (he : u.size ≤ k1 + 2) : Tl u c1 k1 c1 k1 := by
  refine ⟨Nat.le_refl _, h, ?_⟩
  by_cases h1 : k1 + 1 < u.size
  · rw [drop_at u (k1 + 1) h1, drop_end u (k1 + 1 + 1) (by omega)]; rfl
  · rw [drop_end u (k1 + 1) (by omega)]; rfl
theorem Tl_none (u : ByteArray) (c1 : UInt8) (k1 : Nat) (h : k1 + 2 < u.size) (hc : ((u[k1 + 1].toNat : Int) == 45) = false) : Tl u c1 k1 c1 k1 := by
  refine ⟨Nat.le_refl _, by omega, ?_⟩
  have hn : u[k1 + 1] ≠ 45 := byte_not _ 45 (by omega) hc
  rw [drop_at u (k1 + 1) (by omega), drop_at u (k1 + 1 + 1) (by omega)]
  simp only [tl]
  rw [if_neg hn]
theorem Tl_range (u : ByteArray) (c1 : UInt8) (k1 : Nat) (c2 : UInt8) (k2 : Nat) (h : k1 + 2 < u.size) (hc : ((u[k1 + 1].toNat : Int) == 45) = true) (hr : Rd u (k1 + 2) c2 k2) : Tl u c1 k1 c2 k2 := by
  obtain ⟨a, b, h', hr⟩ := hr
  refine ⟨by omega, b, ?_⟩
  rw [drop_at u (k1 + 1) (by omega), drop_at u (k1 + 1 + 1) (by omega), byte_is _ 45 (by omega) hc]
  exact hr
/-- The range's test, as the walk reckons it. -/
def Dash (u : ByteArray) (k1 : Nat) (e : Bool) : Prop := (e = true → ∃ h : k1 + 2 < u.size, ((u[k1 + 1].toNat : Int) == 45) = true) ∧ (e = false → ∀ h : k1 + 2 < u.size, ((u[k1 + 1].toNat : Int) == 45) = false)
theorem Dash_short (u : ByteArray) (k1 : Nat) (h : ¬ k1 + 2 < u.size) : Dash u k1 false := ⟨(fun e => by cases e), fun _ h' => absurd h' h⟩
theorem Dash_at (u : ByteArray) (k1 : Nat) (h : k1 + 2 < u.size) (e : Bool) (he : ((u[k1 + 1].toNat : Int) == 45) = e) : Dash u k1 e := by
  cases e with
  | true => exact ⟨fun _ => ⟨h, he⟩, (fun e => by cases e)⟩
  | false => exact ⟨(fun e => by cases e), fun _ _ => he⟩
theorem Tl_miss (u : ByteArray) (c1 : UInt8) (k1 : Nat) (h : k1 < u.size) (hd : Dash u k1 false) : Tl u c1 k1 c1 k1 := by
  by_cases h2 : k1 + 2 < u.size
  · exact Tl_none u c1 k1 h2 (hd.2 rfl h2)
  · exact Tl_short u c1 k1 h (by omega)
theorem Tl_hit (u : ByteArray) (c1 : UInt8) (k1 : Nat) (c2 : UInt8) (k2 : Nat) (hd : Dash u k1 true) (hr : Rd u (k1 + 2) c2 k2) : Tl u c1 k1 c2 k2 := by
  obtain ⟨h, hc⟩ := hd.1 rfl
  exact Tl_range u c1 k1 c2 k2 h hc hr

/-- One round. -/
theorem scan_round (u : ByteArray) (b : Int) (k k1 k2 : Nat) (c1 c2 : UInt8) (h1 : Rd u k c1 k1) (h2 : Tl u c1 k1 c2 k2) :
    scan b (u.data.toList.drop k) = (hit c1.toNat c2.toNat b || scan b (u.data.toList.drop (k2 + 1))) := by
  obtain ⟨_, _, h, hr⟩ := h1
  obtain ⟨_, _, ht⟩ := h2
  rw [drop_at u k h, scan_cons, hr]
  simp only [ht]
theorem round_yes (u : ByteArray) (b : Int) (F : Bool) (k k1 k2 : Nat) (c1 c2 : UInt8) (h1 : Rd u k c1 k1) (h2 : Tl u c1 k1 c2 k2) (hq : (F || scan b (u.data.toList.drop k)) = scan b u.data.toList)
    (hb : ((c1.toNat : Int) ≤ b ∧ b ≤ c2.toNat) ∨ ((c2.toNat : Int) ≤ b ∧ b ≤ c1.toNat)) : (true || scan b (u.data.toList.drop (k2 + 1))) = scan b u.data.toList := by
  have hh : hit c1.toNat c2.toNat b = true := by unfold hit; exact decide_eq_true hb
  rw [← hq, scan_round u b k k1 k2 c1 c2 h1 h2, hh]
  simp
theorem round_no (u : ByteArray) (b : Int) (F : Bool) (k k1 k2 : Nat) (c1 c2 : UInt8) (h1 : Rd u k c1 k1) (h2 : Tl u c1 k1 c2 k2) (hq : (F || scan b (u.data.toList.drop k)) = scan b u.data.toList)
    (hb : ¬ (((c1.toNat : Int) ≤ b ∧ b ≤ c2.toNat) ∨ ((c2.toNat : Int) ≤ b ∧ b ≤ c1.toNat))) : (F || scan b (u.data.toList.drop (k2 + 1))) = scan b u.data.toList := by
  have hh : hit c1.toNat c2.toNat b = false := by unfold hit; exact decide_eq_false hb
  rw [← hq, scan_round u b k k1 k2 c1 c2 h1 h2, hh, Bool.false_or]

/-! ### One byte more at the end -/
def good (l : List UInt8) : Prop := ∀ x, l.getLast? = some x → x ≠ 92 ∧ x ≠ 45
theorem good_tail {c : UInt8} {r : List UInt8} (h : good (c :: r)) : good r := by
  intro x hx
  refine h x ?_
  cases r with
  | nil => simp at hx
  | cons d r => simpa using hx
theorem rd_app (c e : UInt8) (r : List UInt8) (h : good (c :: r)) : rd c (r ++ [e]) = ((rd c r).1, (rd c r).2 ++ [e]) ∧ good (rd c r).2 := by
  by_cases hc : c = 92
  · subst hc
    cases r with
    | nil => exact absurd rfl (h 92 rfl).1
    | cons d r => exact ⟨rfl, good_tail (good_tail h)⟩
  · rw [rd_plain hc, rd_plain hc]
    exact ⟨rfl, good_tail h⟩
theorem tl_app (lo e : UInt8) (r : List UInt8) (h : good r) : tl lo (r ++ [e]) = ((tl lo r).1, (tl lo r).2 ++ [e]) ∧ good (tl lo r).2 := by
  match r, h with
  | [], h => exact ⟨rfl, h⟩
  | [d], h =>
    have hd : d ≠ 45 := (h d rfl).2
    refine ⟨?_, h⟩
    simp [tl, hd]
  | d :: f :: r2, h =>
    by_cases hd : d = 45
    · subst hd
      have := rd_app f e r2 (good_tail h)
      simpa [tl] using this
    · refine ⟨by simp [tl, hd], ?_⟩
      simpa [tl, hd] using h
theorem scan_app (b : Int) (e : UInt8) : ∀ (n : Nat) (l : List UInt8), l.length ≤ n → good l → scan b (l ++ [e]) = (scan b l || decide (b = e.toNat))
  | _, [], _, _ => by
    have e1 : rd e [] = (e, []) := by unfold rd; split <;> rfl
    show scan b [e] = _
    rw [scan_cons, e1]
    simp only [tl]
    rw [hit_self, scan_nil, Bool.or_false, Bool.false_or]
  | 0, c :: r, h, _ => by simp at h
  | n + 1, c :: r, h, hg => by
    have r1 := rd_app c e r hg
    have r2 := tl_app (rd c r).1 e (rd c r).2 r1.2
    have e1 := rd_length c r
    have e2 := tl_length (rd c r).1 (rd c r).2
    simp at h
    show scan b (c :: (r ++ [e])) = _
    rw [scan_cons, r1.1, r2.1, scan_cons]
    simp only []
    rw [scan_app b e n _ (by omega) r2.2, Bool.or_assoc]
theorem append_law (l : List UInt8) (c : UInt8) (b : Int) (hl : l ≠ []) (hg : good l) :
    inSet (l ++ [c]) b = if l.head? = some 94 then (inSet l b && !(decide (b = c.toNat))) else (inSet l b || decide (b = c.toNat)) := by
  match l, hl, hg with
  | d :: r, _, hg =>
    by_cases hd : d = 94
    · subst hd
      show (!(scan b (r ++ [c]))) = _
      rw [scan_app b c r.length r (Nat.le_refl _) (good_tail hg)]
      simp [inSet]
    · have e1 : ∀ r', inSet (d :: r') b = scan b (d :: r') := by
        intro r'
        unfold inSet
        split
        · rename_i _ h; simp at h; exact absurd h.1 hd
        · rfl
      rw [List.cons_append, e1, e1, ← List.cons_append, scan_app b c (r.length + 1) (d :: r) (by simp) hg]
      simp [hd]
theorem append_walk (s : ByteArray) (c : UInt8) (b : Int) (h : 0 < s.size) (h1 : ((s[s.size - 1].toNat : Int) == 92) = false) (h2 : ((s[s.size - 1].toNat : Int) == 45) = false) :
    inSet (⟨(s.data.toList ++ [c]).toArray⟩ : ByteArray).data.toList b = if (s[0].toNat : Int) = 94 then (inSet s.data.toList b && !(decide (b = c.toNat))) else (inSet s.data.toList b || decide (b = c.toNat)) := by
  have hz : s.data.toList.length = s.size := by simp
  have hne : s.data.toList ≠ [] := fun e => by rw [e] at hz; simp at hz; omega
  have hg : good s.data.toList := by
    intro x hx
    have e : x = s[s.size - 1] := by
      rw [List.getLast?_eq_getElem?, List.getElem?_eq_getElem (by omega)] at hx
      rw [← Option.some.inj hx]
      simp only [hz]
      rfl
    rw [e]
    exact ⟨byte_not _ 92 (by omega) h1, byte_not _ 45 (by omega) h2⟩
  have hh : s.data.toList.head? = some s[0] := by
    rw [List.head?_eq_getElem?, List.getElem?_eq_getElem (by omega)]; rfl
  have key : (s.data.toList.head? = some 94) ↔ ((s[0].toNat : Int) = 94) := by
    rw [hh]
    constructor
    · intro e; rw [Option.some.inj e]; rfl
    · intro e; rw [byte_is s[0] 94 (by omega) (by rw [e]; rfl)]; rfl
  rw [append_law _ c b hne hg]
  by_cases e : (s[0].toNat : Int) = 94
  · rw [if_pos e, if_pos (key.2 e)]
  · rw [if_neg e, if_neg (fun k => e (key.1 k))]

/-! ### A text made of items -/
def enc1 (plain : Bool) (x : UInt8) : List UInt8 := if plain then [x] else [92, x]
def enc (plain : Bool) (p : UInt8 × UInt8) : List UInt8 := enc1 plain p.1 ++ (if p.2 = p.1 then [] else 45 :: enc1 plain p.2)
def encAll (plain : Bool) : List (UInt8 × UInt8) → List UInt8
  | [] => []
  | p :: ps => enc plain p ++ encAll plain ps
def tame (plain : Bool) (ps : List (UInt8 × UInt8)) : Prop := plain = true → ∀ p ∈ ps, p.1 ≠ 92 ∧ p.1 ≠ 45 ∧ p.2 ≠ 92 ∧ p.2 ≠ 45
theorem encAll_app (plain : Bool) (ps qs : List (UInt8 × UInt8)) : encAll plain (ps ++ qs) = encAll plain ps ++ encAll plain qs := by
  induction ps with
  | nil => rfl
  | cons p ps ih => simp [encAll, ih]
theorem tl_encAll (plain : Bool) (lo : UInt8) (ps : List (UInt8 × UInt8)) (h : tame plain ps) : tl lo (encAll plain ps) = (lo, encAll plain ps) := by
  have key : ∀ d r, encAll plain ps = d :: r → d ≠ 45 := by
    intro d r e
    cases ps with
    | nil => simp [encAll] at e
    | cons p ps =>
      cases plain with
      | false => simp [encAll, enc, enc1] at e; rw [← e.1]; decide
      | true => simp [encAll, enc, enc1] at e; rw [← e.1]; exact (h rfl p (by simp)).2.1
  generalize he : encAll plain ps = l at key
  match l with
  | [] => rfl
  | [_] => rfl
  | d :: f :: r => simp [tl, key d _ rfl]
theorem scan_item (plain : Bool) (b : Int) (p : UInt8 × UInt8) (ps : List (UInt8 × UInt8)) (h : tame plain (p :: ps)) :
    scan b (encAll plain (p :: ps)) = (hit p.1.toNat p.2.toNat b || scan b (encAll plain ps)) := by
  have ht : tame plain ps := fun e q hq => h e q (List.mem_cons_of_mem _ hq)
  obtain ⟨x, y⟩ := p
  have r1 : ∀ (z : UInt8), (plain = true → z ≠ 92) → ∀ rest, ∃ c r, enc1 plain z ++ rest = c :: r ∧ rd c r = (z, rest) := by
    intro z hz rest
    cases plain with
    | false => exact ⟨92, z :: rest, rfl, rfl⟩
    | true => exact ⟨z, rest, rfl, rd_plain (hz rfl)⟩
  by_cases hxy : y = x
  · subst hxy
    obtain ⟨c, r, e1, e2⟩ := r1 y (fun e => (h e (y, y) (by simp)).1) (encAll plain ps)
    have e3 : encAll plain ((y, y) :: ps) = c :: r := by simp [encAll, enc, ← e1]
    rw [e3, scan_cons, e2]
    simp only []
    rw [tl_encAll plain y ps ht]
  · obtain ⟨c, r, e1, e2⟩ := r1 x (fun e => (h e (x, y) (by simp)).1) (45 :: (enc1 plain y ++ encAll plain ps))
    obtain ⟨c', r', e4, e5⟩ := r1 y (fun e => (h e (x, y) (by simp)).2.2.1) (encAll plain ps)
    have e3 : encAll plain ((x, y) :: ps) = c :: r := by simp [encAll, enc, hxy, ← e1]
    rw [e3, scan_cons, e2]
    simp only []
    rw [e4]
    simp only [tl, if_true]
    rw [e5]
theorem scan_items (plain : Bool) (b : Int) : ∀ (ps : List (UInt8 × UInt8)), tame plain ps → scan b (encAll plain ps) = ps.any fun p => hit p.1.toNat p.2.toNat b
  | [], _ => rfl
  | p :: ps, h => by
    rw [scan_item plain b p ps h, List.any_cons, scan_items plain b ps (fun e q hq => h e q (List.mem_cons_of_mem _ hq))]
theorem items_law (plain neg : Bool) (b : Int) (ps : List (UInt8 × UInt8)) (h : tame plain ps) (h94 : plain = true → neg = false → ∀ p, ps.head? = some p → p.1 ≠ 94) :
    inSet ((if neg then [94] else []) ++ encAll plain ps) b = ((ps.any fun p => hit p.1.toNat p.2.toNat b) != neg) := by
  rw [← scan_items plain b ps h]
  cases neg with
  | true => simp [inSet]
  | false =>
    have key : ∀ d r, encAll plain ps = d :: r → d ≠ 94 := by
      intro d r e
      cases ps with
      | nil => simp [encAll] at e
      | cons p ps =>
        cases plain with
        | false => simp [encAll, enc, enc1] at e; rw [← e.1]; decide
        | true => simp [encAll, enc, enc1] at e; rw [← e.1]; exact h94 rfl rfl p rfl
    simp only [Bool.false_eq_true, if_false, List.nil_append, Bool.bne_false]
    unfold inSet
    split
    · rename_i r e; exact absurd rfl (key 94 r e)
    · rfl
end Go.Proofs.Qxb6601063a.Pl
