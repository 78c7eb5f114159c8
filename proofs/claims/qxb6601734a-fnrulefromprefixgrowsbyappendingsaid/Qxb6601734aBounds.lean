/-
  The guards of the laws: each answers some bool, and turns nothing.
-/
import Derived.Test.Qxb6601734aBase
namespace Go.Proofs.Qxb6601734a
open Go.ChangeShapes Go.WideShapes Go.ChangeAt Go.RowKit

/-- The call answers some bool. -/
def SomeBool (e : Ending) : Prop := ∃ b : Bool, e = .returned (.bool b)
/-- 'zzTextBytes': some number. -/
theorem textBytes_any (ao : Option Addr) (n cap : Nat) (ss : List ByteArray) (w : World) (h : SlA w ao n cap (ss.map Value.string)) :
    Calls Try.prog 16 #[.slice ao n cap] w fun e w' => ∃ t : Int, 0 ≤ t ∧ t ≤ 1048577 ∧ e = .returned (.int .i64 t) ∧ w' = w := by
  have H : Hid (SlA w ao n cap (ss.map Value.string)) := h
  clear h
  by_cases hn : n ≤ 65536
  · go_enter Try.func16, Try.ntmps16
    go_wp2
    go_loop [3, 4] (fun t i => ∃ (k : Nat) (T : Int), k ≤ n ∧ i = .int .i64 k ∧ t = .int .i64 T ∧ 0 ≤ T ∧ T ≤ 1048576) (fun _ i => n - (intOf i).toNat)
    case atStart => exact ⟨0, _, Nat.zero_le _, rfl, rfl, by omega, by omega⟩
    case round =>
      obtain ⟨k, T, hk, rfl, rfl, hT0, hT1⟩ := hrel
      by_cases hlt : k < n
      · obtain ⟨b, off, rfl, hb, h', hc⟩ := H.out.str k hlt
        generalize ss[k] = s at hc
        by_cases hs : s.size ≤ 1048576
        · by_cases ht : T + s.size ≤ 1048576
          · go_wp2
            go_round
            case rel => exact ⟨k + 1, T + s.size, by omega, by go_num, rfl, by omega, ht⟩
            case measure => simp [intOf]; omega
          · go_wp2
            go_ret
            exact ⟨_, by omega, by omega, rfl, rfl⟩
        · go_wp2
          go_ret
          exact ⟨_, by omega, by omega, rfl, rfl⟩
      · go_wp2
        go_ret
        exact ⟨T, hT0, by omega, rfl, rfl⟩
  · go_enter Try.func16, Try.ntmps16
    go_wp2
    go_ret
    exact ⟨_, by omega, by omega, rfl, rfl⟩

set_option maxRecDepth 100000 in
set_option maxHeartbeats 1000000 in
theorem bytes14_any (a : ByteArray) (o1 o2 o3 o4 o5 o6 : Option Addr) (n1 c1 n2 c2 n3 c3 n4 c4 n5 c5 n6 c6 : Nat) (s1 s2 s3 : List ByteArray) (w : World)
    (H1 : Hid (SlA w o1 n1 c1 (s1.map Value.string))) (H2 : Hid (SlA w o2 n2 c2 (s2.map Value.string))) (H3 : Hid (SlA w o3 n3 c3 (s3.map Value.string))) :
    Calls Try.prog 14 #[.string a, .slice o1 n1 c1, .slice o2 n2 c2, .slice o3 n3 c3, .slice o4 n4 c4, .slice o5 n5 c5, .slice o6 n6 c6] w fun e w' => SomeBool e ∧ w' = w := by
  go_enter Try.func14, Try.ntmps14
  go_wp2
  all_goals first | (go_ret; exact ⟨⟨_, rfl⟩, rfl⟩) | skip
  go_loop [15, 16] (fun t i => ∃ (k : Nat) (T : Int), k ≤ n1 ∧ i = .int .i64 k ∧ t = .int .i64 T ∧ 0 ≤ T ∧ T ≤ 1048576) (fun _ i => n1 - (intOf i).toNat)
  case atStart => exact ⟨0, _, Nat.zero_le _, rfl, rfl, by omega, by omega⟩
  case round =>
    obtain ⟨k, T, hk, rfl, rfl, hT0, hT1⟩ := hrel
    by_cases hlt : k < n1
    · obtain ⟨b, off, rfl, hb, h', hc⟩ := H1.out.str k hlt
      generalize s1[k] = s at hc
      by_cases hs : s.size ≤ 1048576
      · by_cases ht : T + s.size ≤ 1048576
        · go_wp2
          go_round
          case rel => exact ⟨k + 1, T + s.size, by omega, by go_num, rfl, by omega, ht⟩
          case measure => simp [intOf]; omega
        · go_wp2
          go_ret
          exact ⟨⟨_, rfl⟩, rfl⟩
      · go_wp2
        go_ret
        exact ⟨⟨_, rfl⟩, rfl⟩
    · go_wp2
      all_goals first | (go_ret; exact ⟨⟨_, rfl⟩, rfl⟩) | skip
      go_loop [15, 17] (fun t i => ∃ (k : Nat) (T : Int), k ≤ n2 ∧ i = .int .i64 k ∧ t = .int .i64 T ∧ 0 ≤ T ∧ T ≤ 1048576) (fun _ i => n2 - (intOf i).toNat)
      case atStart => exact ⟨0, _, Nat.zero_le _, rfl, rfl, by omega, by omega⟩
      case round =>
        obtain ⟨k, T, hk, rfl, rfl, hT0, hT1⟩ := hrel
        by_cases hlt : k < n2
        · obtain ⟨b, off, rfl, hb, h', hc⟩ := H2.out.str k hlt
          generalize s2[k] = s at hc
          by_cases hs : s.size ≤ 1048576
          · by_cases ht : T + s.size ≤ 1048576
            · go_wp2
              go_round
              case rel => exact ⟨k + 1, T + s.size, by omega, by go_num, rfl, by omega, ht⟩
              case measure => simp [intOf]; omega
            · go_wp2
              go_ret
              exact ⟨⟨_, rfl⟩, rfl⟩
          · go_wp2
            go_ret
            exact ⟨⟨_, rfl⟩, rfl⟩
        · go_wp2
          all_goals first | (go_ret; exact ⟨⟨_, rfl⟩, rfl⟩) | skip
          go_loop [15, 18] (fun t i => ∃ (k : Nat) (T : Int), k ≤ n3 ∧ i = .int .i64 k ∧ t = .int .i64 T ∧ 0 ≤ T ∧ T ≤ 1048576) (fun _ i => n3 - (intOf i).toNat)
          case atStart => exact ⟨0, _, Nat.zero_le _, rfl, rfl, by omega, by omega⟩
          case round =>
            obtain ⟨k, T, hk, rfl, rfl, hT0, hT1⟩ := hrel
            by_cases hlt : k < n3
            · obtain ⟨b, off, rfl, hb, h', hc⟩ := H3.out.str k hlt
              generalize s3[k] = s at hc
              by_cases hs : s.size ≤ 1048576
              · by_cases ht : T + s.size ≤ 1048576
                · go_wp2
                  go_round
                  case rel => exact ⟨k + 1, T + s.size, by omega, by go_num, rfl, by omega, ht⟩
                  case measure => simp [intOf]; omega
                · go_wp2
                  go_ret
                  exact ⟨⟨_, rfl⟩, rfl⟩
              · go_wp2
                go_ret
                exact ⟨⟨_, rfl⟩, rfl⟩
            · go_wp2
              all_goals first | (go_ret; exact ⟨⟨_, rfl⟩, rfl⟩) | skip

set_option maxRecDepth 100000 in
set_option maxHeartbeats 1000000 in
theorem bytes13_any (a : ByteArray) (o1 o2 o3 o4 o5 o6 : Option Addr) (n1 c1 n2 c2 n3 c3 n4 c4 n5 c5 n6 c6 : Nat) (kk : Int) (s1 s2 s3 : List ByteArray) (w : World)
    (H1 : Hid (SlA w o1 n1 c1 (s1.map Value.string))) (H2 : Hid (SlA w o2 n2 c2 (s2.map Value.string))) (H3 : Hid (SlA w o3 n3 c3 (s3.map Value.string))) :
    Calls Try.prog 13 #[.string a, .slice o1 n1 c1, .slice o2 n2 c2, .slice o3 n3 c3, .slice o4 n4 c4, .slice o5 n5 c5, .slice o6 n6 c6, .int .i64 kk] w fun e w' => SomeBool e ∧ w' = w := by
  go_enter Try.func13, Try.ntmps13
  go_wp2
  all_goals first | (go_ret; exact ⟨⟨_, rfl⟩, rfl⟩) | skip
  go_loop [17, 18] (fun t i => ∃ (k : Nat) (T : Int), k ≤ n1 ∧ i = .int .i64 k ∧ t = .int .i64 T ∧ 0 ≤ T ∧ T ≤ 1048576) (fun _ i => n1 - (intOf i).toNat)
  case atStart => exact ⟨0, _, Nat.zero_le _, rfl, rfl, by omega, by omega⟩
  case round =>
    obtain ⟨k, T, hk, rfl, rfl, hT0, hT1⟩ := hrel
    by_cases hlt : k < n1
    · obtain ⟨b, off, rfl, hb, h', hc⟩ := H1.out.str k hlt
      generalize s1[k] = s at hc
      by_cases hs : s.size ≤ 1048576
      · by_cases ht : T + s.size ≤ 1048576
        · go_wp2
          go_round
          case rel => exact ⟨k + 1, T + s.size, by omega, by go_num, rfl, by omega, ht⟩
          case measure => simp [intOf]; omega
        · go_wp2
          go_ret
          exact ⟨⟨_, rfl⟩, rfl⟩
      · go_wp2
        go_ret
        exact ⟨⟨_, rfl⟩, rfl⟩
    · go_wp2
      all_goals first | (go_ret; exact ⟨⟨_, rfl⟩, rfl⟩) | skip
      go_loop [17, 19] (fun t i => ∃ (k : Nat) (T : Int), k ≤ n2 ∧ i = .int .i64 k ∧ t = .int .i64 T ∧ 0 ≤ T ∧ T ≤ 1048576) (fun _ i => n2 - (intOf i).toNat)
      case atStart => exact ⟨0, _, Nat.zero_le _, rfl, rfl, by omega, by omega⟩
      case round =>
        obtain ⟨k, T, hk, rfl, rfl, hT0, hT1⟩ := hrel
        by_cases hlt : k < n2
        · obtain ⟨b, off, rfl, hb, h', hc⟩ := H2.out.str k hlt
          generalize s2[k] = s at hc
          by_cases hs : s.size ≤ 1048576
          · by_cases ht : T + s.size ≤ 1048576
            · go_wp2
              go_round
              case rel => exact ⟨k + 1, T + s.size, by omega, by go_num, rfl, by omega, ht⟩
              case measure => simp [intOf]; omega
            · go_wp2
              go_ret
              exact ⟨⟨_, rfl⟩, rfl⟩
          · go_wp2
            go_ret
            exact ⟨⟨_, rfl⟩, rfl⟩
        · go_wp2
          all_goals first | (go_ret; exact ⟨⟨_, rfl⟩, rfl⟩) | skip
          go_loop [17, 20] (fun t i => ∃ (k : Nat) (T : Int), k ≤ n3 ∧ i = .int .i64 k ∧ t = .int .i64 T ∧ 0 ≤ T ∧ T ≤ 1048576) (fun _ i => n3 - (intOf i).toNat)
          case atStart => exact ⟨0, _, Nat.zero_le _, rfl, rfl, by omega, by omega⟩
          case round =>
            obtain ⟨k, T, hk, rfl, rfl, hT0, hT1⟩ := hrel
            by_cases hlt : k < n3
            · obtain ⟨b, off, rfl, hb, h', hc⟩ := H3.out.str k hlt
              generalize s3[k] = s at hc
              by_cases hs : s.size ≤ 1048576
              · by_cases ht : T + s.size ≤ 1048576
                · go_wp2
                  go_round
                  case rel => exact ⟨k + 1, T + s.size, by omega, by go_num, rfl, by omega, ht⟩
                  case measure => simp [intOf]; omega
                · go_wp2
                  go_ret
                  exact ⟨⟨_, rfl⟩, rfl⟩
              · go_wp2
                go_ret
                exact ⟨⟨_, rfl⟩, rfl⟩
            · go_wp2
              all_goals first | (go_ret; exact ⟨⟨_, rfl⟩, rfl⟩) | skip

/-- 'zzRuleInBounds': where it says yes, the six slices are of one length, at most 4096. -/
def RB (n1 n2 n3 n4 n5 n6 : Nat) (e : Ending) : Prop := ∃ b : Bool, e = .returned (.bool b) ∧ (b = true → n1 ≤ 4096 ∧ n2 = n1 ∧ n3 = n1 ∧ n4 = n1 ∧ n5 = n1 ∧ n6 = n1)
theorem RB_no (n1 n2 n3 n4 n5 n6 : Nat) : RB n1 n2 n3 n4 n5 n6 (.returned (.bool false)) := ⟨false, rfl, fun h => by cases h⟩
theorem ne_bool {m n : Nat} (h : m ≠ n) : ((m : Int) != (n : Int)) = true := by simp; omega

set_option maxRecDepth 100000 in
set_option maxHeartbeats 1000000 in
theorem bounds_in (a : ByteArray) (o1 o2 o3 o4 o5 o6 : Option Addr) (n c1 c2 c3 c4 c5 c6 : Nat) (s1 s2 s3 : List ByteArray) (w : World) (hn : n ≤ 4096) (ha : a.size ≤ 1048576)
    (H1 : Hid (SlA w o1 n c1 (s1.map Value.string))) (H2 : Hid (SlA w o2 n c2 (s2.map Value.string))) (H3 : Hid (SlA w o3 n c3 (s3.map Value.string))) :
    Calls Try.prog 7 #[.string a, .slice o1 n c1, .slice o2 n c2, .slice o3 n c3, .slice o4 n c4, .slice o5 n c5, .slice o6 n c6] w fun e w' => RB n n n n n n e ∧ w' = w := by
  go_enter Try.func7, Try.ntmps7
  go_wp2_with fail
  refine (textBytes_any o1 n c1 s1 _ H1.out).mono ?_
  rintro e w' ⟨t1, h10, h11, rfl, hw⟩
  cases hw
  go_wp2_with fail
  refine (textBytes_any o2 n c2 s2 _ H2.out).mono ?_
  rintro e w' ⟨t2, h20, h21, rfl, hw⟩
  cases hw
  go_wp2_with fail
  refine (textBytes_any o3 n c3 s3 _ H3.out).mono ?_
  rintro e w' ⟨t3, h30, h31, rfl, hw⟩
  cases hw
  go_wp2
  go_ret
  exact ⟨⟨_, rfl, fun _ => ⟨hn, rfl, rfl, rfl, rfl, rfl⟩⟩, rfl⟩
theorem bounds_long (a : ByteArray) (o1 o2 o3 o4 o5 o6 : Option Addr) (n c1 c2 c3 c4 c5 c6 : Nat) (w : World) (hn : n ≤ 4096) (ha : ¬ a.size ≤ 1048576) :
    Calls Try.prog 7 #[.string a, .slice o1 n c1, .slice o2 n c2, .slice o3 n c3, .slice o4 n c4, .slice o5 n c5, .slice o6 n c6] w fun e w' => RB n n n n n n e ∧ w' = w := by
  go_enter Try.func7, Try.ntmps7
  go_wp2_with fail
  go_ret
  exact ⟨RB_no _ _ _ _ _ _, rfl⟩
theorem bounds_many (a : ByteArray) (o1 o2 o3 o4 o5 o6 : Option Addr) (n1 c1 n2 c2 n3 c3 n4 c4 n5 c5 n6 c6 : Nat) (w : World) (hn : ¬ n1 ≤ 4096) :
    Calls Try.prog 7 #[.string a, .slice o1 n1 c1, .slice o2 n2 c2, .slice o3 n3 c3, .slice o4 n4 c4, .slice o5 n5 c5, .slice o6 n6 c6] w fun e w' => RB n1 n2 n3 n4 n5 n6 e ∧ w' = w := by
  go_enter Try.func7, Try.ntmps7
  go_wp2_with fail
  go_ret
  exact ⟨RB_no _ _ _ _ _ _, rfl⟩
theorem bounds_ne2 (a : ByteArray) (o1 o2 o3 o4 o5 o6 : Option Addr) (n1 c1 n2 c2 n3 c3 n4 c4 n5 c5 n6 c6 : Nat) (w : World) (hn : n1 ≤ 4096) (hne : n2 ≠ n1) :
    Calls Try.prog 7 #[.string a, .slice o1 n1 c1, .slice o2 n2 c2, .slice o3 n3 c3, .slice o4 n4 c4, .slice o5 n5 c5, .slice o6 n6 c6] w fun e w' => RB n1 n2 n3 n4 n5 n6 e ∧ w' = w := by
  have hb := ne_bool hne
  clear hne
  go_enter Try.func7, Try.ntmps7
  go_wp2_with fail
  go_ret
  exact ⟨RB_no _ _ _ _ _ _, rfl⟩
theorem bounds_ne3 (a : ByteArray) (o1 o2 o3 o4 o5 o6 : Option Addr) (n1 c1 c2 n3 c3 n4 c4 n5 c5 n6 c6 : Nat) (w : World) (hn : n1 ≤ 4096) (hne : n3 ≠ n1) :
    Calls Try.prog 7 #[.string a, .slice o1 n1 c1, .slice o2 n1 c2, .slice o3 n3 c3, .slice o4 n4 c4, .slice o5 n5 c5, .slice o6 n6 c6] w fun e w' => RB n1 n1 n3 n4 n5 n6 e ∧ w' = w := by
  have hb := ne_bool hne
  clear hne
  go_enter Try.func7, Try.ntmps7
  go_wp2_with fail
  go_ret
  exact ⟨RB_no _ _ _ _ _ _, rfl⟩
theorem bounds_ne4 (a : ByteArray) (o1 o2 o3 o4 o5 o6 : Option Addr) (n1 c1 c2 c3 n4 c4 n5 c5 n6 c6 : Nat) (w : World) (hn : n1 ≤ 4096) (hne : n4 ≠ n1) :
    Calls Try.prog 7 #[.string a, .slice o1 n1 c1, .slice o2 n1 c2, .slice o3 n1 c3, .slice o4 n4 c4, .slice o5 n5 c5, .slice o6 n6 c6] w fun e w' => RB n1 n1 n1 n4 n5 n6 e ∧ w' = w := by
  have hb := ne_bool hne
  clear hne
  go_enter Try.func7, Try.ntmps7
  go_wp2_with fail
  go_ret
  exact ⟨RB_no _ _ _ _ _ _, rfl⟩
theorem bounds_ne5 (a : ByteArray) (o1 o2 o3 o4 o5 o6 : Option Addr) (n1 c1 c2 c3 c4 n5 c5 n6 c6 : Nat) (w : World) (hn : n1 ≤ 4096) (hne : n5 ≠ n1) :
    Calls Try.prog 7 #[.string a, .slice o1 n1 c1, .slice o2 n1 c2, .slice o3 n1 c3, .slice o4 n1 c4, .slice o5 n5 c5, .slice o6 n6 c6] w fun e w' => RB n1 n1 n1 n1 n5 n6 e ∧ w' = w := by
  have hb := ne_bool hne
  clear hne
  go_enter Try.func7, Try.ntmps7
  go_wp2_with fail
  go_ret
  exact ⟨RB_no _ _ _ _ _ _, rfl⟩
theorem bounds_ne6 (a : ByteArray) (o1 o2 o3 o4 o5 o6 : Option Addr) (n1 c1 c2 c3 c4 c5 n6 c6 : Nat) (w : World) (hn : n1 ≤ 4096) (hne : n6 ≠ n1) :
    Calls Try.prog 7 #[.string a, .slice o1 n1 c1, .slice o2 n1 c2, .slice o3 n1 c3, .slice o4 n1 c4, .slice o5 n1 c5, .slice o6 n6 c6] w fun e w' => RB n1 n1 n1 n1 n1 n6 e ∧ w' = w := by
  have hb := ne_bool hne
  clear hne
  go_enter Try.func7, Try.ntmps7
  go_wp2_with fail
  go_ret
  exact ⟨RB_no _ _ _ _ _ _, rfl⟩
theorem bounds_any (a : ByteArray) (o1 o2 o3 o4 o5 o6 : Option Addr) (n1 c1 n2 c2 n3 c3 n4 c4 n5 c5 n6 c6 : Nat) (s1 s2 s3 : List ByteArray) (w : World)
    (H1 : Hid (SlA w o1 n1 c1 (s1.map Value.string))) (H2 : Hid (SlA w o2 n2 c2 (s2.map Value.string))) (H3 : Hid (SlA w o3 n3 c3 (s3.map Value.string))) :
    Calls Try.prog 7 #[.string a, .slice o1 n1 c1, .slice o2 n2 c2, .slice o3 n3 c3, .slice o4 n4 c4, .slice o5 n5 c5, .slice o6 n6 c6] w fun e w' => RB n1 n2 n3 n4 n5 n6 e ∧ w' = w := by
  by_cases hn : n1 ≤ 4096
  · by_cases h2 : n2 = n1
    · subst h2
      by_cases h3 : n3 = n2
      · subst h3
        by_cases h4 : n4 = n3
        · subst h4
          by_cases h5 : n5 = n4
          · subst h5
            by_cases h6 : n6 = n5
            · subst h6
              by_cases ha : a.size ≤ 1048576
              · exact bounds_in a o1 o2 o3 o4 o5 o6 n6 c1 c2 c3 c4 c5 c6 s1 s2 s3 w hn ha H1 H2 H3
              · exact bounds_long a o1 o2 o3 o4 o5 o6 n6 c1 c2 c3 c4 c5 c6 w hn ha
            · exact bounds_ne6 a o1 o2 o3 o4 o5 o6 n5 c1 c2 c3 c4 c5 n6 c6 w hn h6
          · exact bounds_ne5 a o1 o2 o3 o4 o5 o6 n4 c1 c2 c3 c4 n5 c5 n6 c6 w hn h5
        · exact bounds_ne4 a o1 o2 o3 o4 o5 o6 n3 c1 c2 c3 n4 c4 n5 c5 n6 c6 w hn h4
      · exact bounds_ne3 a o1 o2 o3 o4 o5 o6 n2 c1 c2 n3 c3 n4 c4 n5 c5 n6 c6 w hn h3
    · exact bounds_ne2 a o1 o2 o3 o4 o5 o6 n1 c1 n2 c2 n3 c3 n4 c4 n5 c5 n6 c6 w hn h2
  · exact bounds_many a o1 o2 o3 o4 o5 o6 n1 c1 n2 c2 n3 c3 n4 c4 n5 c5 n6 c6 w hn
end Go.Proofs.Qxb6601734a
