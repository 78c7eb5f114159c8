/-
  The walk of the law 'FnInSetAppendAddsOneByte'.
-/
import Derived.Test.Qxb6601063aWalks
namespace Go.Proofs.Qxb6601063a
open Go.ChangeShapes Go.WideShapes Go.ChangeAt Go.RowKit

theorem Try.info5 : (Try.prog.info? 5).map (fun i => (i.zero, i.size, i.bytes)) = some (some (.int .u8 0), 1, 1) := by kernel_rfl
def byteV (c : UInt8) : Value := .int .u8 c.toNat

/-- 'string(b)' of a row of the call's own. -/
theorem conv_own {w : World} {base g n cap : Nat} {l : List UInt8} (h : w.ownsRow base 5 1 (.slice (some ⟨g, 0, none⟩) n cap) n (l.map byteV)) :
    (convert 23 9 (.slice (some ⟨g, 0, none⟩) n cap)).run Try.prog w = .ok (.string ⟨l.toArray⟩) w := by
  have hl : l.length = n := by have := h.1; simpa using this
  subst hl
  refine run_convert_bytes_back (P := Try.prog) w 23 9 5 ⟨g, 0, none⟩ cap l Try.underlying23 Try.underlying5 Try.underlying9 (fun j hj => ?_)
  have := h.cellAt j (by omega)
  rw [add_plain, Nat.zero_add]
  simpa [byteV, hj] using this
theorem conv_snoc {w : World} {base g n cap : Nat} {l : List UInt8} {c : UInt8} (h : w.ownsRow base 5 1 (.slice (some ⟨g, 0, none⟩) n cap) n (l.map byteV ++ [byteV c])) :
    (convert 23 9 (.slice (some ⟨g, 0, none⟩) n cap)).run Try.prog w = .ok (.string ⟨(l ++ [c]).toArray⟩) w :=
  conv_own (l := l ++ [c]) (by rw [List.map_append]; exact h)
/-- A new byte is laid in a block of its own. -/
theorem cell_one (w : World) (c : UInt8) : ∀ (j : Nat) (u : Value), [byteV c][j]? = some u → (w.alloc (.cells #[.int .u8 c.toNat] 5)).cell? ((⟨w.heap.size, 0, none⟩ : Addr).add j) = some u := by
  intro j u h
  match j, h with
  | 0, h => simp at h; subst h; simp [Addr.add, byteV]
theorem one_cell (c : UInt8) : ∀ u ∈ [byteV c], u.oneCell' = true := by
  intro u hu; simp at hu; subst hu; rfl

theorem bytes21_any (s : ByteArray) (c b : Int) (w : World) (hs : s.size ≤ maxLen) :
    Calls Try.prog 21 #[.string s, .int .u8 c, .int .u8 b] w fun e w' => e = .returned (.bool (decide (s.size ≤ 1048576))) ∧ w' = w := by
  unfold maxLen at hs
  by_cases h : s.size ≤ 1048576
  · rw [decide_eq_true h]
    go_enter Try.func21, Try.ntmps21
    go_wp2
    go_ret
    exact ⟨rfl, rfl⟩
  · rw [decide_eq_false h]
    go_enter Try.func21, Try.ntmps21
    go_wp2
    go_ret
    exact ⟨rfl, rfl⟩

set_option maxRecDepth 100000 in
set_option maxHeartbeats 1000000 in
theorem law9_main (s : ByteArray) (c : UInt8) (b : Int) (w : World) (h1 : 1 ≤ s.size) (h2 : s.size ≤ 65536)
    (hl1 : ((s[s.size - 1].toNat : Int) == 92) = false) (hl2 : ((s[s.size - 1].toNat : Int) == 45) = false)
    (HB : Hid (∀ w, Calls Try.prog 21 #[.string s, .int .u8 c.toNat, .int .u8 b] w fun e w' => e = .returned (.bool true) ∧ w' = w))
    (G O : Bool) (HG : Hid (∀ w, Calls Try.prog 20 #[.string ⟨(s.data.toList ++ [c]).toArray⟩, .int .u8 b] w fun e w' => e = .returned (.bool G) ∧ w' = w))
    (HO : Hid (∀ w, Calls Try.prog 20 #[.string s, .int .u8 b] w fun e w' => e = .returned (.bool O) ∧ w' = w))
    (HL : Hid (G = if (s[0].toNat : Int) = 94 then (O && !(decide (b = c.toNat))) else (O || decide (b = c.toNat)))) :
    Calls Try.prog 9 #[.string s, .int .u8 c.toNat, .int .u8 b] w fun e w' => e = .returned (.bool true) ∧ Below w.heap.size w w' := by
  obtain ⟨i0, hi, hz0, hz1, hz2⟩ := info_parts Try.info5
  go_enter Try.func9, Try.ntmps9
  go_wp2_with (first | (go_at_call 21; refine (HB.out _).mono ?_; rintro e w' ⟨rfl, hw⟩; cases hw) | (at_make; refine wpList_make_own _ rfl _ _ 23 rfl w.heap.size 5 i0 (.int .u8 0) 1 Try.underlying23 hi hz0 hz1 _ _ _ (s.size + 1) rfl rfl (by omega) ?b2 ?b3 (Nat.le_refl _) ?_))
  case b2 => rw [hz2]; omega
  case b3 => unfold maxLen; omega
  intro w0 hown0 hgrow0
  have hnx0 : Below w.heap.size w w0 := (Below.refl _ _).grown hgrow0 (Nat.le_refl _) (fun k h => by cases h)
  clear hgrow0
  go_wp2
  go_loopw [8, 9] (fun ext i wr => ∃ k : Nat, k ≤ s.size ∧ i = .int .i64 k ∧ ext = .slice (some ⟨w.heap.size, 0, none⟩) k (s.size + 1) ∧
      wr.ownsRow w.heap.size 5 1 (.slice (some ⟨w.heap.size, 0, none⟩) k (s.size + 1)) k ((s.data.toList.take k).map byteV) ∧ Below w.heap.size w wr)
    (fun _ i _ => s.size - (intOf i).toNat)
  case atStart => exact ⟨0, Nat.zero_le _, rfl, rfl, hown0, hnx0⟩
  case round =>
    obtain ⟨k, hk, rfl, rfl, hown, hnx⟩ := hrel
    by_cases hlt : k < s.size
    · have HT : Hid ((s.data.toList.take k).map byteV ++ [byteV s[k]] = (s.data.toList.take (k + 1)).map byteV) := by
        show _ = _
        rw [List.take_succ_eq_append_getElem (by simpa using hlt)]; simp; rfl
      go_wp2_with (at_builtin; refine wpList_append_fits _ rfl (.tmp 44) (.tmp 48) 23 rfl w.heap.size 5 i0 1 Try.underlying23 hi hz1 w.heap.size k (s.size + 1) _ rfl (hown.alloc _) ⟨wr.heap.size, 0, none⟩ 1 1 [byteV s[k]] rfl rfl (cell_one wr s[k]) (one_cell s[k]) (by omega) ?_; intro w1 hown1 hgrow1)
      go_roundw
      case rel => exact ⟨k + 1, by omega, by go_num, rfl, by rw [HT.out] at hown1; exact hown1, (hnx.alloc hnx.size _).grown hgrow1 (by simp; have := hnx.size; omega) (fun k hk => by cases hk; exact Nat.le_refl _)⟩
      case measure => simp [intOf]; omega
    · obtain rfl : k = s.size := by omega
      rw [List.take_of_length_le (by simp)] at hown
      go_wp2_with (at_builtin; refine wpList_append_fits _ rfl (.tmp 50) (.tmp 52) 23 rfl w.heap.size 5 i0 1 Try.underlying23 hi hz1 w.heap.size s.size (s.size + 1) _ rfl (hown.alloc _) ⟨wr.heap.size, 0, none⟩ 1 1 [byteV c] rfl rfl (cell_one wr c) (one_cell c) (Nat.le_refl _) ?_; intro w1 hown1 hgrow1; have hcv := conv_snoc hown1)
      have hnx1 : Below w.heap.size w w1 := (hnx.alloc hnx.size _).grown hgrow1 (by simp; have := hnx.size; omega) (fun k hk => by cases hk; exact Nat.le_refl _)
      clear hown1 hgrow1 hown hcv hown0 hnx
      refine (HG.out _).mono ?_
      rintro e w' ⟨rfl, hw⟩
      cases hw
      go_wp2_with fail
      refine (HO.out _).mono ?_
      rintro e w' ⟨rfl, hw⟩
      cases hw
      have hG := HL.out
      clear HL HG HO HB
      by_cases hd : (s[0].toNat : Int) = 94
      · rw [if_pos hd] at hG
        have hd' : ((s[0].toNat : Int) == 94) = true := by rw [hd]; rfl
        clear hd
        by_cases hb : b = c.toNat
        · rw [decide_eq_true hb] at hG
          have hb' : (b != (c.toNat : Int)) = false := by simp [hb]
          clear hb
          cases O with
          | true =>
            obtain rfl : G = false := hG
            go_wp2
            go_ret
            exact ⟨rfl, hnx1⟩
          | false =>
            obtain rfl : G = false := hG
            go_wp2
            go_ret
            exact ⟨rfl, hnx1⟩
        · rw [decide_eq_false hb] at hG
          have hb' : (b != (c.toNat : Int)) = true := by simp [hb]
          clear hb
          cases O with
          | true =>
            obtain rfl : G = true := hG
            go_wp2
            go_ret
            exact ⟨rfl, hnx1⟩
          | false =>
            obtain rfl : G = false := hG
            go_wp2
            go_ret
            exact ⟨rfl, hnx1⟩
      · rw [if_neg hd] at hG
        have hd' : ((s[0].toNat : Int) == 94) = false := by simpa using hd
        clear hd
        by_cases hb : b = c.toNat
        · rw [decide_eq_true hb] at hG
          have hb' : (b == (c.toNat : Int)) = true := by simp [hb]
          clear hb
          cases O with
          | true =>
            obtain rfl : G = true := hG
            go_wp2
            go_ret
            exact ⟨rfl, hnx1⟩
          | false =>
            obtain rfl : G = true := hG
            go_wp2
            go_ret
            exact ⟨rfl, hnx1⟩
        · rw [decide_eq_false hb] at hG
          have hb' : (b == (c.toNat : Int)) = false := by simp [hb]
          clear hb
          cases O with
          | true =>
            obtain rfl : G = true := hG
            go_wp2
            go_ret
            exact ⟨rfl, hnx1⟩
          | false =>
            obtain rfl : G = false := hG
            go_wp2
            go_ret
            exact ⟨rfl, hnx1⟩

/-- The guards turn the input away. -/
theorem law9_out (s : ByteArray) (c b : Int) (w : World)
    (HB : Hid (∀ w, Calls Try.prog 21 #[.string s, .int .u8 c, .int .u8 b] w fun e w' => e = .returned (.bool false) ∧ w' = w)) :
    Calls Try.prog 9 #[.string s, .int .u8 c, .int .u8 b] w fun e w' => e = .returned (.bool true) ∧ Below w.heap.size w w' := by
  go_enter Try.func9, Try.ntmps9
  go_wp2_with (go_at_call 21; refine (HB.out _).mono ?_; rintro e w' ⟨rfl, hw⟩; cases hw)
  go_ret
  exact ⟨rfl, Below.refl _ _⟩
theorem law9_long (s : ByteArray) (c b : Int) (w : World) (hs : s.size ≤ 1048576) (h : ¬ s.size ≤ 65536)
    (HB : Hid (∀ w, Calls Try.prog 21 #[.string s, .int .u8 c, .int .u8 b] w fun e w' => e = .returned (.bool true) ∧ w' = w)) :
    Calls Try.prog 9 #[.string s, .int .u8 c, .int .u8 b] w fun e w' => e = .returned (.bool true) ∧ Below w.heap.size w w' := by
  go_enter Try.func9, Try.ntmps9
  go_wp2_with (go_at_call 21; refine (HB.out _).mono ?_; rintro e w' ⟨rfl, hw⟩; cases hw)
  go_ret
  exact ⟨rfl, Below.refl _ _⟩
theorem law9_empty (s : ByteArray) (c b : Int) (w : World) (h : s.size = 0)
    (HB : Hid (∀ w, Calls Try.prog 21 #[.string s, .int .u8 c, .int .u8 b] w fun e w' => e = .returned (.bool true) ∧ w' = w)) :
    Calls Try.prog 9 #[.string s, .int .u8 c, .int .u8 b] w fun e w' => e = .returned (.bool true) ∧ Below w.heap.size w w' := by
  go_enter Try.func9, Try.ntmps9
  go_wp2_with (go_at_call 21; refine (HB.out _).mono ?_; rintro e w' ⟨rfl, hw⟩; cases hw)
  go_ret
  exact ⟨rfl, Below.refl _ _⟩
theorem law9_last (s : ByteArray) (c b : Int) (w : World) (h1 : 1 ≤ s.size) (h2 : s.size ≤ 65536)
    (hl : ((s[s.size - 1].toNat : Int) == 92) = true ∨ ((s[s.size - 1].toNat : Int) == 92) = false ∧ ((s[s.size - 1].toNat : Int) == 45) = true)
    (HB : Hid (∀ w, Calls Try.prog 21 #[.string s, .int .u8 c, .int .u8 b] w fun e w' => e = .returned (.bool true) ∧ w' = w)) :
    Calls Try.prog 9 #[.string s, .int .u8 c, .int .u8 b] w fun e w' => e = .returned (.bool true) ∧ Below w.heap.size w w' := by
  rcases hl with hl | ⟨hl1, hl2⟩
  · go_enter Try.func9, Try.ntmps9
    go_wp2_with (go_at_call 21; refine (HB.out _).mono ?_; rintro e w' ⟨rfl, hw⟩; cases hw)
    go_ret
    exact ⟨rfl, Below.refl _ _⟩
  · go_enter Try.func9, Try.ntmps9
    go_wp2_with (go_at_call 21; refine (HB.out _).mono ?_; rintro e w' ⟨rfl, hw⟩; cases hw)
    go_ret
    exact ⟨rfl, Below.refl _ _⟩

theorem law9_walk (s : ByteArray) (c : UInt8) (b : Int) (w : World) (hs : s.size ≤ maxLen) :
    Calls Try.prog 9 #[.string s, .int .u8 c.toNat, .int .u8 b] w fun e w' => e = .returned (.bool true) ∧ Below w.heap.size w w' := by
  have hB := fun w => bytes21_any s c.toNat b w hs
  by_cases h1 : s.size ≤ 1048576
  · simp only [decide_eq_true h1] at hB
    by_cases h2 : s.size ≤ 65536
    · by_cases h3 : s.size = 0
      · exact law9_empty s c.toNat b w h3 hB
      · cases e1 : ((s[s.size - 1].toNat : Int) == 92) with
        | true => exact law9_last s c.toNat b w (by omega) h2 (.inl e1) hB
        | false =>
          cases e2 : ((s[s.size - 1].toNat : Int) == 45) with
          | true => exact law9_last s c.toNat b w (by omega) h2 (.inr ⟨e1, e2⟩) hB
          | false =>
            have hz : (⟨(s.data.toList ++ [c]).toArray⟩ : ByteArray).size ≤ 4194304 := by
              show ((s.data.toList ++ [c]).toArray).size ≤ _
              simp; omega
            have hG := fun w => zzinSet_any ⟨(s.data.toList ++ [c]).toArray⟩ b w hz
            have hO := fun w => zzinSet_any s b w (by omega)
            exact law9_main s c b w (by omega) h2 e1 e2 hB _ _ hG hO (Pl.append_walk s c b (by omega) e1 e2)
    · exact law9_long s c.toNat b w h1 h2 hB
  · simp only [decide_eq_false h1] at hB
    exact law9_out s c.toNat b w hB
end Go.Proofs.Qxb6601063a
