/-
  The clones: a new slice of the same elements; nil of nil.
-/
import Derived.Test.Qxb6601734aBase
namespace Go.Proofs.Qxb6601734a
open Go.ChangeShapes Go.WideShapes Go.ChangeAt Go.RowKit

theorem Try.info9 : (Try.prog.info? 9).map (fun i => (i.zero, i.size, i.bytes)) = some (some (.string ⟨#[]⟩), 1, 16) := by kernel_rfl
theorem Try.info3 : (Try.prog.info? 3).map (fun i => (i.zero, i.size, i.bytes)) = some (some (.int .i64 0), 1, 8) := by kernel_rfl
theorem Try.info4 : (Try.prog.info? 4).map (fun i => (i.zero, i.size, i.bytes)) = some (some (.bool false), 1, 1) := by kernel_rfl

/-- What a clone hands back. -/
def Cloned (w : World) (n : Nat) (cs : List Value) (e : Ending) (w' : World) : Prop :=
  ∃ ao', e = .returned (.slice ao' n n) ∧ SlA w' ao' n n cs ∧ Below w.heap.size w w'

/-- The row half filled. -/
def Filled (w : World) (e g n k : Nat) (cs : List Value) (wr : World) : Prop :=
  ∃ xs : List Value, wr.ownsRow w.heap.size e 1 (.slice (some ⟨g, 0, none⟩) n n) n xs ∧ xs.take k = cs.take k ∧ Below w.heap.size w wr
theorem Filled.step {w : World} {e g n k : Nat} {cs : List Value} {wr : World} (h : Filled w e g n k cs wr) (hg : w.heap.size ≤ g) (hk : k < n) (hl : cs.length = n) : Filled w e g n (k + 1) cs (wr.setCell ⟨g, k, none⟩ (cs[k]'(by omega))) := by
  obtain ⟨xs, ho, ht, hb⟩ := h
  have hx : xs.length = n := by have := ho.1; simpa using this
  have hs := ho.stored k (cs[k]'(by omega))
  refine ⟨_, hs.1, ?_, hb.setCell hg _⟩
  rw [List.take_succ_eq_append_getElem (by simp; omega), List.take_succ_eq_append_getElem (by omega), List.take_set_of_le (by omega), ht]
  simp
theorem Filled.cell {w : World} {e g n k : Nat} {cs : List Value} {wr : World} (h : Filled w e g n k cs wr) (hk : k < n) : ∃ v, wr.cell? ⟨g, k, none⟩ = some v := by
  obtain ⟨xs, ho, ht, hb⟩ := h
  have hx : xs.length = n := by have := ho.1; simpa using this
  exact ⟨_, (ho.cellAt k (by omega)).trans (List.getElem?_eq_getElem (by omega))⟩
theorem Filled.free {w : World} {e g n k : Nat} {cs : List Value} {wr : World} (h : Filled w e g n k cs wr) : wr.frozen? ⟨g, k, none⟩ = false := by
  obtain ⟨xs, ho, ht, hb⟩ := h
  exact ho.frozenAt k
theorem Filled.below {w : World} {e g n k : Nat} {cs : List Value} {wr : World} (h : Filled w e g n k cs wr) : Below w.heap.size w wr := by
  obtain ⟨xs, ho, ht, hb⟩ := h
  exact hb
theorem Filled.done {w : World} {e g n : Nat} {cs : List Value} {wr : World} (h : Filled w e g n n cs wr) (hl : cs.length = n) : SlA wr (some ⟨g, 0, none⟩) n n cs ∧ Below w.heap.size w wr := by
  obtain ⟨xs, ho, ht, hb⟩ := h
  have hx : xs.length = n := by have := ho.1; simpa using this
  rw [List.take_of_length_le (by omega), List.take_of_length_le (by omega)] at ht
  subst ht
  exact ⟨SlA.own ho, hb⟩

set_option maxRecDepth 100000 in
set_option maxHeartbeats 400000 in
theorem cloneTexts_some (a0 : Addr) (n cap : Nat) (ss : List ByteArray) (w : World) (hn : n ≤ 4096) (H : Hid (SlA w (some a0) n cap (ss.map Value.string))) :
    Calls Try.prog 8 #[.slice (some a0) n cap] w fun e w' => Cloned w n (ss.map Value.string) e w' := by
  obtain ⟨i0, hi, hz0, hz1, hz2⟩ := info_parts Try.info9
  have hq := fun w => Lib.run_eql_slice_nil (P := Try.prog) w 22 9 (some a0) n cap 0 0 Try.underlying22
  go_enter Try.func8, Try.ntmps8
  go_wp2_with (at_make; refine wpList_make_full _ rfl _ _ 22 rfl w.heap.size 9 i0 (.string ⟨#[]⟩) 1 Try.underlying22 hi hz0 hz1 _ _ _ _ n rfl rfl rfl rfl ?b2 ?b3 (Nat.le_refl _) ?_)
  case b2 => rw [hz2]; omega
  case b3 => unfold maxLen; omega
  intro w0 hown0 hgrow0
  have hf0 : Filled w 9 w.heap.size n 0 (ss.map Value.string) w0 := ⟨_, hown0, rfl, (Below.refl _ _).grown hgrow0 (Nat.le_refl _) (fun k h => by cases h)⟩
  have HL : Hid ((ss.map Value.string).length = n) := H.out.1
  clear hown0 hgrow0 hz0 hz1 hz2 hi hq
  go_wp2
  go_loopw [4] (fun i wr => ∃ k : Nat, k ≤ n ∧ i = .int .i64 k ∧ Filled w 9 w.heap.size n k (ss.map Value.string) wr) (fun i _ => n - (intOf i).toNat)
  case atStart => exact ⟨0, Nat.zero_le _, rfl, hf0⟩
  case round =>
    obtain ⟨k, hk, rfl, hf⟩ := hrel
    clear hf0
    by_cases hlt : k < n
    · obtain ⟨b, off, hab, hb, h', hc0⟩ := H.out.at k hlt
      cases hab
      have hbl := hf.below
      have hc : wr.cell? ⟨b, off + k, none⟩ = some ((ss.map Value.string)[k]) := (hbl.cell (p := ⟨b, off + k, none⟩) hb).trans hc0
      have hst := hf.step (Nat.le_refl _) hlt HL.out
      obtain ⟨v0, hv0⟩ := hf.cell hlt
      have hfr := hf.free (k := k)
      simp only [List.getElem_map] at hst hc
      clear hbl hf hc0
      generalize ss[k]'(by simpa using h') = s at hc hst
      have HS : Hid (Filled w 9 w.heap.size n (k + 1) (ss.map Value.string) (wr.setCell ⟨w.heap.size, k, none⟩ (Value.string s))) := hst
      clear hst
      go_wp2
      go_roundw
      case rel => exact ⟨k + 1, by omega, by go_num, HS⟩
      case measure => simp [intOf]; omega
    · obtain rfl : k = n := by omega
      go_wp2
      go_ret
      have hd := hf.done HL.out
      exact ⟨_, rfl, hd.1, hd.2⟩
theorem cloneTexts_nil (w : World) : Calls Try.prog 8 #[.slice none 0 0] w fun e w' => e = .returned (.slice none 0 0) ∧ w' = w := by
  have hq := fun w => Lib.run_eql_slice_nil (P := Try.prog) w 22 9 none 0 0 0 0 Try.underlying22
  go_enter Try.func8, Try.ntmps8
  go_wp2
  go_ret
  exact ⟨rfl, rfl⟩
theorem cloneTexts_any (ao : Option Addr) (n cap : Nat) (ss : List ByteArray) (w : World) (hn : n ≤ 4096) (h : SlA w ao n cap (ss.map Value.string)) :
    Calls Try.prog 8 #[.slice ao n cap] w fun e w' => Cloned w n (ss.map Value.string) e w' := by
  cases ao with
  | some a0 => exact cloneTexts_some a0 n cap ss w hn h
  | none =>
    obtain ⟨rfl, rfl⟩ := h.2.2.1 rfl
    have hz : ss.map Value.string = [] := List.eq_nil_of_length_eq_zero h.1
    rw [hz]
    refine (cloneTexts_nil w).mono ?_
    rintro e w' ⟨rfl, rfl⟩
    exact ⟨none, rfl, SlA.nil _, Below.refl _ _⟩
set_option maxRecDepth 100000 in
set_option maxHeartbeats 400000 in
theorem cloneInts_some (a0 : Addr) (n cap : Nat) (ss : List Int) (w : World) (hn : n ≤ 4096) (H : Hid (SlA w (some a0) n cap (ss.map (Value.int .i64)))) :
    Calls Try.prog 9 #[.slice (some a0) n cap] w fun e w' => Cloned w n (ss.map (Value.int .i64)) e w' := by
  obtain ⟨i0, hi, hz0, hz1, hz2⟩ := info_parts Try.info3
  have hq := fun w => Lib.run_eql_slice_nil (P := Try.prog) w 23 3 (some a0) n cap 0 0 Try.underlying23
  go_enter Try.func9, Try.ntmps9
  go_wp2_with (at_make; refine wpList_make_full _ rfl _ _ 23 rfl w.heap.size 3 i0 (.int .i64 0) 1 Try.underlying23 hi hz0 hz1 _ _ _ _ n rfl rfl rfl rfl ?b2 ?b3 (Nat.le_refl _) ?_)
  case b2 => rw [hz2]; omega
  case b3 => unfold maxLen; omega
  intro w0 hown0 hgrow0
  have hf0 : Filled w 3 w.heap.size n 0 (ss.map (Value.int .i64)) w0 := ⟨_, hown0, rfl, (Below.refl _ _).grown hgrow0 (Nat.le_refl _) (fun k h => by cases h)⟩
  have HL : Hid ((ss.map (Value.int .i64)).length = n) := H.out.1
  clear hown0 hgrow0 hz0 hz1 hz2 hi hq
  go_wp2
  go_loopw [4] (fun i wr => ∃ k : Nat, k ≤ n ∧ i = .int .i64 k ∧ Filled w 3 w.heap.size n k (ss.map (Value.int .i64)) wr) (fun i _ => n - (intOf i).toNat)
  case atStart => exact ⟨0, Nat.zero_le _, rfl, hf0⟩
  case round =>
    obtain ⟨k, hk, rfl, hf⟩ := hrel
    clear hf0
    by_cases hlt : k < n
    · obtain ⟨b, off, hab, hb, h', hc0⟩ := H.out.at k hlt
      cases hab
      have hbl := hf.below
      have hc : wr.cell? ⟨b, off + k, none⟩ = some ((ss.map (Value.int .i64))[k]) := (hbl.cell (p := ⟨b, off + k, none⟩) hb).trans hc0
      have hst := hf.step (Nat.le_refl _) hlt HL.out
      obtain ⟨v0, hv0⟩ := hf.cell hlt
      have hfr := hf.free (k := k)
      simp only [List.getElem_map] at hst hc
      clear hbl hf hc0
      generalize ss[k]'(by simpa using h') = s at hc hst
      have HS : Hid (Filled w 3 w.heap.size n (k + 1) (ss.map (Value.int .i64)) (wr.setCell ⟨w.heap.size, k, none⟩ ((Value.int .i64) s))) := hst
      clear hst
      go_wp2
      go_roundw
      case rel => exact ⟨k + 1, by omega, by go_num, HS⟩
      case measure => simp [intOf]; omega
    · obtain rfl : k = n := by omega
      go_wp2
      go_ret
      have hd := hf.done HL.out
      exact ⟨_, rfl, hd.1, hd.2⟩
theorem cloneInts_nil (w : World) : Calls Try.prog 9 #[.slice none 0 0] w fun e w' => e = .returned (.slice none 0 0) ∧ w' = w := by
  have hq := fun w => Lib.run_eql_slice_nil (P := Try.prog) w 23 3 none 0 0 0 0 Try.underlying23
  go_enter Try.func9, Try.ntmps9
  go_wp2
  go_ret
  exact ⟨rfl, rfl⟩
theorem cloneInts_any (ao : Option Addr) (n cap : Nat) (ss : List Int) (w : World) (hn : n ≤ 4096) (h : SlA w ao n cap (ss.map (Value.int .i64))) :
    Calls Try.prog 9 #[.slice ao n cap] w fun e w' => Cloned w n (ss.map (Value.int .i64)) e w' := by
  cases ao with
  | some a0 => exact cloneInts_some a0 n cap ss w hn h
  | none =>
    obtain ⟨rfl, rfl⟩ := h.2.2.1 rfl
    have hz : ss.map (Value.int .i64) = [] := List.eq_nil_of_length_eq_zero h.1
    rw [hz]
    refine (cloneInts_nil w).mono ?_
    rintro e w' ⟨rfl, rfl⟩
    exact ⟨none, rfl, SlA.nil _, Below.refl _ _⟩
set_option maxRecDepth 100000 in
set_option maxHeartbeats 400000 in
theorem cloneBools_some (a0 : Addr) (n cap : Nat) (ss : List Bool) (w : World) (hn : n ≤ 4096) (H : Hid (SlA w (some a0) n cap (ss.map Value.bool))) :
    Calls Try.prog 10 #[.slice (some a0) n cap] w fun e w' => Cloned w n (ss.map Value.bool) e w' := by
  obtain ⟨i0, hi, hz0, hz1, hz2⟩ := info_parts Try.info4
  have hq := fun w => Lib.run_eql_slice_nil (P := Try.prog) w 24 4 (some a0) n cap 0 0 Try.underlying24
  go_enter Try.func10, Try.ntmps10
  go_wp2_with (at_make; refine wpList_make_full _ rfl _ _ 24 rfl w.heap.size 4 i0 (.bool false) 1 Try.underlying24 hi hz0 hz1 _ _ _ _ n rfl rfl rfl rfl ?b2 ?b3 (Nat.le_refl _) ?_)
  case b2 => rw [hz2]; omega
  case b3 => unfold maxLen; omega
  intro w0 hown0 hgrow0
  have hf0 : Filled w 4 w.heap.size n 0 (ss.map Value.bool) w0 := ⟨_, hown0, rfl, (Below.refl _ _).grown hgrow0 (Nat.le_refl _) (fun k h => by cases h)⟩
  have HL : Hid ((ss.map Value.bool).length = n) := H.out.1
  clear hown0 hgrow0 hz0 hz1 hz2 hi hq
  go_wp2
  go_loopw [4] (fun i wr => ∃ k : Nat, k ≤ n ∧ i = .int .i64 k ∧ Filled w 4 w.heap.size n k (ss.map Value.bool) wr) (fun i _ => n - (intOf i).toNat)
  case atStart => exact ⟨0, Nat.zero_le _, rfl, hf0⟩
  case round =>
    obtain ⟨k, hk, rfl, hf⟩ := hrel
    clear hf0
    by_cases hlt : k < n
    · obtain ⟨b, off, hab, hb, h', hc0⟩ := H.out.at k hlt
      cases hab
      have hbl := hf.below
      have hc : wr.cell? ⟨b, off + k, none⟩ = some ((ss.map Value.bool)[k]) := (hbl.cell (p := ⟨b, off + k, none⟩) hb).trans hc0
      have hst := hf.step (Nat.le_refl _) hlt HL.out
      obtain ⟨v0, hv0⟩ := hf.cell hlt
      have hfr := hf.free (k := k)
      simp only [List.getElem_map] at hst hc
      clear hbl hf hc0
      generalize ss[k]'(by simpa using h') = s at hc hst
      have HS : Hid (Filled w 4 w.heap.size n (k + 1) (ss.map Value.bool) (wr.setCell ⟨w.heap.size, k, none⟩ (Value.bool s))) := hst
      clear hst
      go_wp2
      go_roundw
      case rel => exact ⟨k + 1, by omega, by go_num, HS⟩
      case measure => simp [intOf]; omega
    · obtain rfl : k = n := by omega
      go_wp2
      go_ret
      have hd := hf.done HL.out
      exact ⟨_, rfl, hd.1, hd.2⟩
theorem cloneBools_nil (w : World) : Calls Try.prog 10 #[.slice none 0 0] w fun e w' => e = .returned (.slice none 0 0) ∧ w' = w := by
  have hq := fun w => Lib.run_eql_slice_nil (P := Try.prog) w 24 4 none 0 0 0 0 Try.underlying24
  go_enter Try.func10, Try.ntmps10
  go_wp2
  go_ret
  exact ⟨rfl, rfl⟩
theorem cloneBools_any (ao : Option Addr) (n cap : Nat) (ss : List Bool) (w : World) (hn : n ≤ 4096) (h : SlA w ao n cap (ss.map Value.bool)) :
    Calls Try.prog 10 #[.slice ao n cap] w fun e w' => Cloned w n (ss.map Value.bool) e w' := by
  cases ao with
  | some a0 => exact cloneBools_some a0 n cap ss w hn h
  | none =>
    obtain ⟨rfl, rfl⟩ := h.2.2.1 rfl
    have hz : ss.map Value.bool = [] := List.eq_nil_of_length_eq_zero h.1
    rw [hz]
    refine (cloneBools_nil w).mono ?_
    rintro e w' ⟨rfl, rfl⟩
    exact ⟨none, rfl, SlA.nil _, Below.refl _ _⟩
set_option maxRecDepth 100000 in
set_option maxHeartbeats 400000 in
theorem zzTexts_some (a0 : Addr) (n cap : Nat) (ss : List ByteArray) (w : World) (hn : n ≤ 4096) (H : Hid (SlA w (some a0) n cap (ss.map Value.string))) :
    Calls Try.prog 17 #[.slice (some a0) n cap] w fun e w' => Cloned w n (ss.map Value.string) e w' := by
  obtain ⟨i0, hi, hz0, hz1, hz2⟩ := info_parts Try.info9
  have hq := fun w => Lib.run_eql_slice_nil (P := Try.prog) w 41 35 (some a0) n cap 0 0 Try.underlying41
  go_enter Try.func17, Try.ntmps17
  go_wp2_with (at_make; refine wpList_make_full _ rfl _ _ 22 rfl w.heap.size 9 i0 (.string ⟨#[]⟩) 1 Try.underlying22 hi hz0 hz1 _ _ _ _ n rfl rfl rfl rfl ?b2 ?b3 (Nat.le_refl _) ?_)
  case b2 => rw [hz2]; omega
  case b3 => unfold maxLen; omega
  intro w0 hown0 hgrow0
  have hf0 : Filled w 9 w.heap.size n 0 (ss.map Value.string) w0 := ⟨_, hown0, rfl, (Below.refl _ _).grown hgrow0 (Nat.le_refl _) (fun k h => by cases h)⟩
  have HL : Hid ((ss.map Value.string).length = n) := H.out.1
  clear hown0 hgrow0 hz0 hz1 hz2 hi hq
  go_wp2
  go_loopw [4] (fun i wr => ∃ k : Nat, k ≤ n ∧ i = .int .i64 k ∧ Filled w 9 w.heap.size n k (ss.map Value.string) wr) (fun i _ => n - (intOf i).toNat)
  case atStart => exact ⟨0, Nat.zero_le _, rfl, hf0⟩
  case round =>
    obtain ⟨k, hk, rfl, hf⟩ := hrel
    clear hf0
    by_cases hlt : k < n
    · obtain ⟨b, off, hab, hb, h', hc0⟩ := H.out.at k hlt
      cases hab
      have hbl := hf.below
      have hc : wr.cell? ⟨b, off + k, none⟩ = some ((ss.map Value.string)[k]) := (hbl.cell (p := ⟨b, off + k, none⟩) hb).trans hc0
      have hst := hf.step (Nat.le_refl _) hlt HL.out
      obtain ⟨v0, hv0⟩ := hf.cell hlt
      have hfr := hf.free (k := k)
      simp only [List.getElem_map] at hst hc
      clear hbl hf hc0
      generalize ss[k]'(by simpa using h') = s at hc hst
      have HS : Hid (Filled w 9 w.heap.size n (k + 1) (ss.map Value.string) (wr.setCell ⟨w.heap.size, k, none⟩ (Value.string s))) := hst
      clear hst
      go_wp2
      go_roundw
      case rel => exact ⟨k + 1, by omega, by go_num, HS⟩
      case measure => simp [intOf]; omega
    · obtain rfl : k = n := by omega
      go_wp2
      go_ret
      have hd := hf.done HL.out
      exact ⟨_, rfl, hd.1, hd.2⟩
theorem zzTexts_nil (w : World) : Calls Try.prog 17 #[.slice none 0 0] w fun e w' => e = .returned (.slice none 0 0) ∧ w' = w := by
  have hq := fun w => Lib.run_eql_slice_nil (P := Try.prog) w 41 35 none 0 0 0 0 Try.underlying41
  go_enter Try.func17, Try.ntmps17
  go_wp2
  go_ret
  exact ⟨rfl, rfl⟩
theorem zzTexts_any (ao : Option Addr) (n cap : Nat) (ss : List ByteArray) (w : World) (hn : n ≤ 4096) (h : SlA w ao n cap (ss.map Value.string)) :
    Calls Try.prog 17 #[.slice ao n cap] w fun e w' => Cloned w n (ss.map Value.string) e w' := by
  cases ao with
  | some a0 => exact zzTexts_some a0 n cap ss w hn h
  | none =>
    obtain ⟨rfl, rfl⟩ := h.2.2.1 rfl
    have hz : ss.map Value.string = [] := List.eq_nil_of_length_eq_zero h.1
    rw [hz]
    refine (zzTexts_nil w).mono ?_
    rintro e w' ⟨rfl, rfl⟩
    exact ⟨none, rfl, SlA.nil _, Below.refl _ _⟩
end Go.Proofs.Qxb6601734a
