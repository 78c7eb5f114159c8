/-
  The functions that only read: slices.Index, slices.Contains, zzFirstIndex, zzSameTexts.
-/
import Derived.Test.Qxb6601734aBase
import Derived.Test.Qxb6601734aPlain
namespace Go.Proofs.Qxb6601734a
open Go.ChangeShapes Go.WideShapes Go.ChangeAt Go.RowKit

theorem drewN_drewN (w : World) (a b : Nat) : (w.drewN a).drewN b = w.drewN (a + b) := by
  simp [World.drewN, Nat.add_assoc]
/-- An index: not below zero where x is found, -1 where it is not. -/
def Idx (ss : List ByteArray) (x : ByteArray) (i : Int) : Prop := (Pl.has ss x = true ∧ 0 ≤ i) ∨ (Pl.has ss x = false ∧ i = -1)

set_option maxHeartbeats 400000 in
theorem index_any (ao : Option Addr) (n cap : Nat) (ss : List ByteArray) (x : ByteArray) (w : World) (hn : n ≤ 1000000) (H : Hid (SlA w ao n cap (ss.map Value.string))) :
    Calls Try.prog 20 #[.slice ao n cap, .string x] w fun e w' => ∃ i : Int, Idx ss x i ∧ e = .returned (.int .i64 i) ∧ w' = w := by
  have hl : ss.length = n := by have := H.out.1; simpa using this
  have HL : Hid (ss.length = n) := hl
  clear hl
  go_enter Try.func20, Try.ntmps20
  go_wp2
  go_loop [8] (fun i => ∃ k : Nat, k ≤ n ∧ i = .int .i64 k ∧ Hid (Pl.has (ss.take k) x = false)) (fun i => n - (intOf i).toNat)
  case atStart => exact ⟨0, Nat.zero_le _, rfl, rfl⟩
  case round =>
    obtain ⟨k, hk, rfl, HQ⟩ := hrel
    by_cases hlt : k < n
    · obtain ⟨b, off, rfl, hb, h', hc⟩ := H.out.str k hlt
      cases he : (x.toList == ss[k].toList) with
      | true =>
        have HH : Hid (Pl.has ss x = true) := Pl.has_hit ss k h' x he
        go_wp2
        go_ret
        exact ⟨k, .inl ⟨HH, by omega⟩, rfl, rfl⟩
      | false =>
        have HH : Hid (Pl.has (ss.take (k + 1)) x = false) := Pl.has_step ss k h' x HQ.out he
        go_wp2
        go_round
        case rel => exact ⟨k + 1, by omega, by go_num, HH⟩
        case measure => simp [intOf]; omega
    · go_wp2
      go_ret
      exact ⟨-1, .inr ⟨Pl.has_full ss k (by have := HL.out; omega) x HQ.out, rfl⟩, rfl, rfl⟩
theorem contains_any (ao : Option Addr) (n cap : Nat) (ss : List ByteArray) (x : ByteArray) (w : World) (hn : n ≤ 1000000) (H : Hid (SlA w ao n cap (ss.map Value.string))) :
    Calls Try.prog 19 #[.slice ao n cap, .string x] w fun e w' => e = .returned (.bool (Pl.has ss x)) ∧ w' = w := by
  have HI := index_any ao n cap ss x w hn H
  go_enter Try.func19, Try.ntmps19
  go_wp2_with (go_at_call 20; refine HI.mono ?_; rintro e w' ⟨i, hi, rfl, hw⟩; cases hw)
  go_ret
  refine ⟨ret_bool ?_, rfl⟩
  rcases hi with ⟨h1, h2⟩ | ⟨h1, rfl⟩
  · rw [h1]; simpa using h2
  · rw [h1]; rfl

set_option maxHeartbeats 400000 in
theorem firstIndex_none (ao : Option Addr) (n cap : Nat) (ss : List ByteArray) (x : ByteArray) (w : World) (hn : n ≤ 1000000) (H : Hid (SlA w ao n cap (ss.map Value.string))) (HN : Hid (Pl.has ss x = false)) :
    Calls Try.prog 12 #[.slice ao n cap, .string x] w fun e w' => e = .returned (.int .i64 (-1)) ∧ w' = w := by
  go_enter Try.func12, Try.ntmps12
  go_wp2
  go_loop [5] (fun i => ∃ k : Nat, k ≤ n ∧ i = .int .i64 k) (fun i => n - (intOf i).toNat)
  case atStart => exact ⟨0, Nat.zero_le _, rfl⟩
  case round =>
    obtain ⟨k, hk, rfl⟩ := hrel
    by_cases hlt : k < n
    · obtain ⟨b, off, rfl, hb, h', hc⟩ := H.out.str k hlt
      have he : (ss[k].toList == x.toList) = false := Pl.has_not ss k h' x HN.out
      go_wp2
      go_round
      case rel => exact ⟨k + 1, by omega, by go_num⟩
      case measure => simp [intOf]; omega
    · go_wp2
      go_ret
      exact ⟨rfl, rfl⟩

set_option maxHeartbeats 400000 in
/-- 'zzSameTexts' at two slices of the same texts. -/
theorem same_any (ao bo : Option Addr) (n c1 c2 : Nat) (ss : List ByteArray) (w : World) (hn : n ≤ 1000000) (H1 : Hid (SlA w ao n c1 (ss.map Value.string))) (H2 : Hid (SlA w bo n c2 (ss.map Value.string))) :
    Calls Try.prog 15 #[.slice ao n c1, .slice bo n c2] w fun e w' => e = .returned (.bool true) ∧ ∃ q, w' = w.drewN q := by
  go_enter Try.func15, Try.ntmps15
  go_wp2
  go_loopw [5] (fun i wr => ∃ k q : Nat, k ≤ n ∧ i = .int .i64 k ∧ wr = w.drewN q) (fun i _ => n - (intOf i).toNat)
  case atStart => exact ⟨0, 0, Nat.zero_le _, rfl, rfl⟩
  case round =>
    obtain ⟨k, q, hk, rfl, rfl⟩ := hrel
    by_cases hlt : k < n
    · obtain ⟨b, off, rfl, hb, h', hc⟩ := H1.out.str k hlt
      obtain ⟨b2, off2, rfl, hb2, h2', hc2⟩ := H2.out.str k hlt
      have hk1 : (k : Int) < (n : Int) := by omega
      go_wp2
      go_quiet (fail)
      go_wp2
      go_roundw
      case rel => exact ⟨k + 1, q + nq, by omega, by go_num, rfl⟩
      case measure => simp [intOf]; omega
    · go_wp2
      go_ret
      exact ⟨rfl, q, rfl⟩
end Go.Proofs.Qxb6601734a
