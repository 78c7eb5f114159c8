/-
  The walk of the law 'FnInSetItemsModel'.
-/
import Derived.Test.Qxb6601063aLaw9
import Derived.Test.Qxb6601063aItems
import Derived.Deep.QuietTactic
import Derived.BigQuiet
namespace Go.Proofs.Qxb6601063a
open Go.ChangeShapes Go.WideShapes Go.ChangeAt Go.RowKit

/-- The call's own row: its n bytes are L; nothing older has turned since W. -/
def Own (W : World) (cap n : Nat) (L : List UInt8) (w : World) : Prop :=
  w.ownsRow W.heap.size 5 1 (.slice (some ⟨W.heap.size, 0, none⟩) n cap) n (L.map byteV) ∧ Below W.heap.size W w
theorem Own.drewN {W : World} {cap n : Nat} {L : List UInt8} {w : World} (h : Own W cap n L w) (k : Nat) : Own W cap n L (w.drewN k) :=
  ⟨h.1, ⟨h.2.os, h.2.tape, h.2.output, h.2.size, h.2.block⟩⟩
theorem Own.conv {W : World} {cap n : Nat} {L : List UInt8} {w : World} (h : Own W cap n L w) :
    (convert 23 9 (.slice (some ⟨W.heap.size, 0, none⟩) n cap)).run Try.prog w = .ok (.string ⟨L.toArray⟩) w := conv_own h.1

/-- 'set = append(set, c)' where there is room. -/
theorem app1 {W : World} {ops : Array Oper} {rest : List Oper} {o : Oper} {a : Act} {Q : Exit → Act → World → Prop} (s x : Operand) (cap n : Nat) (L : List UInt8) (c : UInt8) (v : Int) (w : World)
    (hg : o.guard = none) (hop : o.op = Op.call { callee := Callee.builtin Builtin.append, args := #[s, x], argTypes := #[23, 23] })
    (hs : a.eval s = .slice (some ⟨W.heap.size, 0, none⟩) n cap) (hx : a.eval x = .slice (some ⟨w.heap.size, 0, none⟩) 1 1)
    (hv : v = c.toNat) (hown : Own W cap n L w) (hfit : n + 1 ≤ cap)
    (hK : ∀ w', Own W cap (n + 1) (L ++ [c]) w' → wpList Try.prog ops Q rest (a.put o.dst (.slice (some ⟨W.heap.size, 0, none⟩) (n + 1) cap)) w') :
    wpList Try.prog ops Q (o :: rest) a (w.alloc (.cells #[.int .u8 v] 5)) := by
  subst hv
  obtain ⟨i0, hi, hz0, hz1, hz2⟩ := info_parts Try.info5
  refine wpList_append_fits _ hg s x 23 hop W.heap.size 5 i0 1 Try.underlying23 hi hz1 W.heap.size n cap _ hs (hown.1.alloc _) ⟨w.heap.size, 0, none⟩ 1 1 [byteV c] hx rfl (cell_one w c) (one_cell c) hfit ?_
  intro w1 h1 h2
  refine hK w1 ⟨by rw [List.map_append]; exact h1, (hown.2.alloc hown.2.size _).grown h2 (by simp; have := hown.2.size; omega) (fun k hk => by cases hk; exact Nat.le_refl _)⟩

/-- The call of 'inSet' on the text that was built. -/
theorem law8_call (lo hi : ByteArray) (neg plain : Bool) (b : Int) (m n : Nat) (W w : World) (hn : n ≤ 4194304) (ho : Own W (1 + 5 * m) n (Pl.txt lo hi neg plain m) w) (ht : Pl.Tame2 lo hi m neg plain) :
    Hid (∀ w, Calls Try.prog 20 #[.string ⟨(Pl.txt lo hi neg plain m).toArray⟩, .int .u8 b] w fun e w' => e = .returned (.bool (Pl.some1 lo hi b m != neg)) ∧ w' = w) := by
  have hl : (Pl.txt lo hi neg plain m).length = n := by have := ho.1.1; simpa using this
  intro w
  have := zzinSet_any ⟨(Pl.txt lo hi neg plain m).toArray⟩ b w (by show (Pl.txt lo hi neg plain m).toArray.size ≤ _; simp; omega)
  rwa [Pl.items_all lo hi neg plain b m ht] at this

set_option maxRecDepth 100000 in
set_option maxHeartbeats 2000000 in
theorem law8_main (lo hi : ByteArray) (neg plain : Bool) (b : Int) (m : Nat) (w : World) (h1 : lo.size ≤ 32768) (h2 : hi.size ≤ 32768) (hm1 : m ≤ lo.size) (hm2 : m ≤ hi.size) (HM : Hid (m = lo.size ∨ m = hi.size))
    (HB : Hid (∀ w, Calls Try.prog 19 #[.string lo, .string hi, .bool neg, .bool plain, .int .u8 b] w fun e w' => e = .returned (.bool true) ∧ w' = w)) :
    Calls Try.prog 8 #[.string lo, .string hi, .bool neg, .bool plain, .int .u8 b] w fun e w' => e = .returned (.bool true) ∧ Below w.heap.size w w' := by
  go_enter Try.func8, Try.ntmps8
  go_upto_if 37 with (go_at_call 19; refine (HB.out _).mono ?_; rintro e w' ⟨rfl, hw⟩; cases hw)
  go_cut [11] (fun t wx => t = .int .i64 m ∧ wx = w)
  case first =>
    by_cases hlt : hi.size < lo.size
    · obtain rfl : m = hi.size := by have := HM.out; omega
      go_wp2
      go_meet
      case rel => exact ⟨rfl, rfl⟩
    · obtain rfl : m = lo.size := by have := HM.out; omega
      go_wp2
      go_meet
      case rel => exact ⟨rfl, rfl⟩
  case rest =>
    obtain ⟨rfl, hw⟩ := hcut
    cases hw
    clear HM
    go_upto_if 40 with fail
    go_cut [12] (fun _ wx => wx = w ∧ Hid (Pl.Tame2 lo hi m neg plain))
    case first =>
      cases plain with
      | false =>
        go_wp2
        go_meet
        case rel => exact ⟨rfl, Pl.Tame2_esc lo hi m neg⟩
      | true =>
        go_wp2_with fail
        go_loop [12] (fun i => ∃ k : Nat, k ≤ m ∧ i = .int .i64 k ∧ Hid (Pl.tameTo lo hi k)) (fun i => m - (intOf i).toNat)
        case atStart => exact ⟨0, Nat.zero_le _, rfl, Pl.tameTo_zero lo hi⟩
        case round =>
          obtain ⟨k, hk, rfl, HT⟩ := hrel
          by_cases hlt : k < m
          · have hl1 : k < lo.size := by omega
            have hl2 : k < hi.size := by omega
            cases ea : ((lo[k].toNat : Int) == 92) with
            | true =>
              go_wp2
              go_ret
              exact ⟨rfl, Below.refl _ _⟩
            | false =>
              cases eb : ((lo[k].toNat : Int) == 45) with
              | true =>
                go_wp2
                go_ret
                exact ⟨rfl, Below.refl _ _⟩
              | false =>
                cases ec : ((hi[k].toNat : Int) == 92) with
                | true =>
                  go_wp2
                  go_ret
                  exact ⟨rfl, Below.refl _ _⟩
                | false =>
                  cases ed : ((hi[k].toNat : Int) == 45) with
                  | true =>
                    go_wp2
                    go_ret
                    exact ⟨rfl, Below.refl _ _⟩
                  | false =>
                    have HT' : Hid (Pl.tameTo lo hi (k + 1)) := Pl.tameTo_succ lo hi k hl1 hl2 HT.out ea eb ec ed
                    go_wp2
                    go_round
                    case rel => exact ⟨k + 1, by omega, by go_num, HT'⟩
                    case measure => simp [intOf]; omega
          · obtain rfl : k = m := by omega
            cases neg with
            | true =>
              go_wp2
              go_meet
              case rel => exact ⟨rfl, Pl.Tame2_neg lo hi k HT.out⟩
            | false =>
              by_cases h0 : 0 < k
              · have hl1 : 0 < lo.size := by omega
                cases e4 : ((lo[0].toNat : Int) == 94) with
                | true =>
                  go_wp2
                  go_ret
                  exact ⟨rfl, Below.refl _ _⟩
                | false =>
                  have HT' : Hid (Pl.Tame2 lo hi k false true) := Pl.Tame2_pos lo hi k false hl1 HT.out e4
                  go_wp2
                  go_meet
                  case rel => exact ⟨rfl, HT'⟩
              · obtain rfl : k = 0 := by omega
                go_wp2
                go_meet
                case rel => exact ⟨rfl, Pl.Tame2_none lo hi false⟩
    case rest =>
      obtain ⟨hw, HT⟩ := hcut
      cases hw
      obtain ⟨i0, hi0, hz0, hz1, hz2⟩ := info_parts Try.info5
      go_wp2_with (at_make; refine wpList_make_own _ rfl _ _ 23 rfl w.heap.size 5 i0 (.int .u8 0) 1 Try.underlying23 hi0 hz0 hz1 _ _ _ (1 + 5 * m) rfl rfl (by omega) ?b2 ?b3 (Nat.le_refl _) ?_)
      case b2 => rw [hz2]; omega
      case b3 => unfold maxLen; omega
      intro w0 hown0 hgrow0
      have ho : Own w (1 + 5 * m) 0 [] w0 := ⟨hown0, (Below.refl _ _).grown hgrow0 (Nat.le_refl _) (fun k h => by cases h)⟩
      clear hown0 hgrow0 hz0 hz1 hz2 hi0
      go_upto_if 83 with fail
      go_cut [13] (fun t wx => ∃ n, n ≤ 1 ∧ t = .slice (some ⟨w.heap.size, 0, none⟩) n (1 + 5 * m) ∧ Own w (1 + 5 * m) n (Pl.txt lo hi neg plain 0) wx)
      case first =>
        cases neg with
        | true =>
          go_wp2_with (at_builtin; refine app1 (W := w) (.tmp 84) (.tmp 85) (1 + 5 * m) 0 [] 94 94 w0 rfl rfl rfl rfl rfl ho (by omega) ?_; intro w1 ho1)
          go_meet
          case rel => exact ⟨1, Nat.le_refl _, rfl, by rw [Pl.txt_zero]; exact ho1⟩
        | false =>
          go_wp2
          go_meet
          case rel => exact ⟨0, Nat.zero_le _, rfl, by rw [Pl.txt_zero]; exact ho⟩
      case rest =>
        obtain ⟨n0, hn0, rfl, ho0⟩ := hcut
        clear ho
        go_wp2_with fail
        go_loopw [13, 14] (fun t i wr => ∃ k n : Nat, k ≤ m ∧ n ≤ 1 + 5 * k ∧ i = .int .i64 k ∧ t = .slice (some ⟨w.heap.size, 0, none⟩) n (1 + 5 * m) ∧ Own w (1 + 5 * m) n (Pl.txt lo hi neg plain k) wr)
          (fun _ i _ => m - (intOf i).toNat)
        case atStart => exact ⟨0, n0, Nat.zero_le _, by omega, rfl, rfl, ho0⟩
        case round =>
          obtain ⟨k, n, hk, hn, rfl, rfl, ho⟩ := hrel
          clear ho0
          by_cases hlt : k < m
          · have hl1 : k < lo.size := by omega
            have hl2 : k < hi.size := by omega
            have hj1 : (k : Int) < (lo.size : Int) := by omega
            have hj2 : (k : Int) < (hi.size : Int) := by omega
            cases plain with
            | true =>
              cases e : ((hi[k].toNat : Int) != (lo[k].toNat : Int)) with
              | false =>
                go_wp2_with (at_builtin; refine app1 (W := w) (.tmp 97) (.tmp 101) (1 + 5 * m) n _ lo[k] _ wr rfl rfl rfl rfl rfl ho (by omega) ?_; intro w1 ho1)
                go_quiet (fail)
                go_wp2
                go_roundw
                case rel => exact ⟨k + 1, n + 1, by omega, by omega, by go_num, rfl, by rw [Pl.txt_plain_eq lo hi neg k hl1 hl2 e]; exact (ho1.drewN nq)⟩
                case measure => simp [intOf]; omega
              | true =>
                go_wp2_with (at_builtin; refine app1 (W := w) (.tmp 97) (.tmp 101) (1 + 5 * m) n _ lo[k] _ wr rfl rfl rfl rfl rfl ho (by omega) ?_; intro w1 ho1)
                go_quiet (fail)
                go_wp2_with (first | (at_builtin; refine app1 (W := w) (.tmp 110) (.tmp 111) (1 + 5 * m) (n + 1) _ 45 45 (w1.drewN nq) rfl rfl rfl rfl rfl (ho1.drewN nq) (by omega) ?_; intro w2 ho2) | (at_builtin; refine app1 (W := w) (.tmp 118) (.tmp 122) (1 + 5 * m) (n + 2) _ hi[k] _ w2 rfl rfl rfl rfl rfl ho2 (by omega) ?_; intro w3 ho3))
                go_roundw
                case rel => exact ⟨k + 1, n + 3, by omega, by omega, by go_num, rfl, by rw [Pl.txt_plain_ne lo hi neg k hl1 hl2 e]; exact ho3⟩
                case measure => simp [intOf]; omega
            | false =>
              cases e : ((hi[k].toNat : Int) != (lo[k].toNat : Int)) with
              | false =>
                go_wp2_with (first | (at_builtin; refine app1 (W := w) (.tmp 94) (.tmp 95) (1 + 5 * m) n _ 92 92 wr rfl rfl rfl rfl rfl ho (by omega) ?_; intro w1 ho1) | (at_builtin; refine app1 (W := w) (.tmp 97) (.tmp 101) (1 + 5 * m) (n + 1) _ lo[k] _ w1 rfl rfl rfl rfl rfl ho1 (by omega) ?_; intro w2 ho2))
                go_quiet (fail)
                go_wp2
                go_roundw
                case rel => exact ⟨k + 1, n + 2, by omega, by omega, by go_num, rfl, by rw [Pl.txt_esc_eq lo hi neg k hl1 hl2 e]; exact (ho2.drewN nq)⟩
                case measure => simp [intOf]; omega
              | true =>
                go_wp2_with (first | (at_builtin; refine app1 (W := w) (.tmp 94) (.tmp 95) (1 + 5 * m) n _ 92 92 wr rfl rfl rfl rfl rfl ho (by omega) ?_; intro w1 ho1) | (at_builtin; refine app1 (W := w) (.tmp 97) (.tmp 101) (1 + 5 * m) (n + 1) _ lo[k] _ w1 rfl rfl rfl rfl rfl ho1 (by omega) ?_; intro w2 ho2))
                go_quiet (fail)
                go_wp2_with (first | (at_builtin; refine app1 (W := w) (.tmp 110) (.tmp 111) (1 + 5 * m) (n + 2) _ 45 45 (w2.drewN nq) rfl rfl rfl rfl rfl (ho2.drewN nq) (by omega) ?_; intro w3 ho3) | (at_builtin; refine app1 (W := w) (.tmp 115) (.tmp 116) (1 + 5 * m) (n + 3) _ 92 92 w3 rfl rfl rfl rfl rfl ho3 (by omega) ?_; intro w4 ho4) | (at_builtin; refine app1 (W := w) (.tmp 118) (.tmp 122) (1 + 5 * m) (n + 4) _ hi[k] _ w4 rfl rfl rfl rfl rfl ho4 (by omega) ?_; intro w5 ho5))
                go_roundw
                case rel => exact ⟨k + 1, n + 5, by omega, by omega, by go_num, rfl, by rw [Pl.txt_esc_ne lo hi neg k hl1 hl2 e]; exact ho5⟩
                case measure => simp [intOf]; omega
          · obtain rfl : k = m := by omega
            clear hn0
            have HG := law8_call lo hi neg plain b k n w wr (by omega) ho HT.out
            go_wp2_with fail
            go_loop [15, 16] (fun f i => ∃ (j : Nat) (F : Bool), j ≤ k ∧ i = .int .i64 j ∧ f = .bool F ∧ Hid (F = Pl.some1 lo hi b j)) (fun _ i => k - (intOf i).toNat)
            case atStart => exact ⟨0, false, Nat.zero_le _, rfl, rfl, Pl.some1_zero lo hi b⟩
            case round =>
              obtain ⟨j, F, hj, rfl, rfl, HF⟩ := hrel
              by_cases hlt2 : j < k
              · have hl1 : j < lo.size := by omega
                have hl2 : j < hi.size := by omega
                go_wp2
                all_goals
                  go_round
                  case rel => first | exact ⟨j + 1, true, by omega, by go_num, rfl, (Pl.some1_yes lo hi b j hl1 hl2 (by omega)).symm⟩ | exact ⟨j + 1, F, by omega, by go_num, rfl, by rw [HF.out]; exact (Pl.some1_no lo hi b j hl1 hl2 (by omega)).symm⟩
                  case measure => simp [intOf]; omega
              · obtain rfl : j = k := by omega
                have hcv := ho.conv
                have hF := HF.out
                rw [← hF] at HG
                clear hF HF
                cases F with
                | true =>
                  cases neg with
                  | true =>
                    go_wp2_with (go_at_call 20; refine (HG.out _).mono ?_; rintro e w' ⟨rfl, hw⟩; cases hw)
                    go_ret
                    exact ⟨rfl, ho.2⟩
                  | false =>
                    go_wp2_with (go_at_call 20; refine (HG.out _).mono ?_; rintro e w' ⟨rfl, hw⟩; cases hw)
                    go_ret
                    exact ⟨rfl, ho.2⟩
                | false =>
                  cases neg with
                  | true =>
                    go_wp2_with (go_at_call 20; refine (HG.out _).mono ?_; rintro e w' ⟨rfl, hw⟩; cases hw)
                    go_ret
                    exact ⟨rfl, ho.2⟩
                  | false =>
                    go_wp2_with (go_at_call 20; refine (HG.out _).mono ?_; rintro e w' ⟨rfl, hw⟩; cases hw)
                    go_ret
                    exact ⟨rfl, ho.2⟩

theorem bytes19_any (lo hi : ByteArray) (neg plain : Bool) (b : Int) (w : World) (ha : lo.size ≤ maxLen) (hb : hi.size ≤ maxLen) :
    Calls Try.prog 19 #[.string lo, .string hi, .bool neg, .bool plain, .int .u8 b] w fun e w' => e = .returned (.bool (decide (lo.size + hi.size ≤ 1048576))) ∧ w' = w := by
  unfold maxLen at ha hb
  by_cases h1 : lo.size ≤ 1048576
  · by_cases h2 : hi.size ≤ 1048576
    · by_cases h3 : lo.size + hi.size ≤ 1048576
      · rw [decide_eq_true h3]
        go_enter Try.func19, Try.ntmps19
        go_wp2
        go_ret
        exact ⟨rfl, rfl⟩
      · rw [decide_eq_false h3]
        go_enter Try.func19, Try.ntmps19
        go_wp2
        go_ret
        exact ⟨rfl, rfl⟩
    · rw [decide_eq_false (by omega)]
      go_enter Try.func19, Try.ntmps19
      go_wp2
      go_ret
      exact ⟨rfl, rfl⟩
  · rw [decide_eq_false (by omega)]
    go_enter Try.func19, Try.ntmps19
    go_wp2
    go_ret
    exact ⟨rfl, rfl⟩
/-- The guards turn the input away. -/
theorem law8_out (lo hi : ByteArray) (neg plain : Bool) (b : Int) (w : World)
    (HB : Hid (∀ w, Calls Try.prog 19 #[.string lo, .string hi, .bool neg, .bool plain, .int .u8 b] w fun e w' => e = .returned (.bool false) ∧ w' = w)) :
    Calls Try.prog 8 #[.string lo, .string hi, .bool neg, .bool plain, .int .u8 b] w fun e w' => e = .returned (.bool true) ∧ Below w.heap.size w w' := by
  go_enter Try.func8, Try.ntmps8
  go_wp2_with (go_at_call 19; refine (HB.out _).mono ?_; rintro e w' ⟨rfl, hw⟩; cases hw)
  go_ret
  exact ⟨rfl, Below.refl _ _⟩
theorem law8_long1 (lo hi : ByteArray) (neg plain : Bool) (b : Int) (w : World) (h1 : ¬ lo.size ≤ 32768) (_h2 : lo.size ≤ 1048576)
    (HB : Hid (∀ w, Calls Try.prog 19 #[.string lo, .string hi, .bool neg, .bool plain, .int .u8 b] w fun e w' => e = .returned (.bool true) ∧ w' = w)) :
    Calls Try.prog 8 #[.string lo, .string hi, .bool neg, .bool plain, .int .u8 b] w fun e w' => e = .returned (.bool true) ∧ Below w.heap.size w w' := by
  go_enter Try.func8, Try.ntmps8
  go_wp2_with (go_at_call 19; refine (HB.out _).mono ?_; rintro e w' ⟨rfl, hw⟩; cases hw)
  go_ret
  exact ⟨rfl, Below.refl _ _⟩
theorem law8_long2 (lo hi : ByteArray) (neg plain : Bool) (b : Int) (w : World) (h0 : lo.size ≤ 32768) (h1 : ¬ hi.size ≤ 32768) (_h2 : hi.size ≤ 1048576)
    (HB : Hid (∀ w, Calls Try.prog 19 #[.string lo, .string hi, .bool neg, .bool plain, .int .u8 b] w fun e w' => e = .returned (.bool true) ∧ w' = w)) :
    Calls Try.prog 8 #[.string lo, .string hi, .bool neg, .bool plain, .int .u8 b] w fun e w' => e = .returned (.bool true) ∧ Below w.heap.size w w' := by
  go_enter Try.func8, Try.ntmps8
  go_wp2_with (go_at_call 19; refine (HB.out _).mono ?_; rintro e w' ⟨rfl, hw⟩; cases hw)
  go_ret
  exact ⟨rfl, Below.refl _ _⟩
theorem law8_walk (lo hi : ByteArray) (neg plain : Bool) (b : Int) (w : World) (ha : lo.size ≤ maxLen) (hb : hi.size ≤ maxLen) :
    Calls Try.prog 8 #[.string lo, .string hi, .bool neg, .bool plain, .int .u8 b] w fun e w' => e = .returned (.bool true) ∧ Below w.heap.size w w' := by
  have hB := fun w => bytes19_any lo hi neg plain b w ha hb
  by_cases h1 : lo.size + hi.size ≤ 1048576
  · simp only [decide_eq_true h1] at hB
    by_cases h2 : lo.size ≤ 32768
    · by_cases h3 : hi.size ≤ 32768
      · exact law8_main lo hi neg plain b (min lo.size hi.size) w h2 h3 (by omega) (by omega) (by show _ ∨ _; omega) hB
      · exact law8_long2 lo hi neg plain b w h2 h3 (by omega) hB
    · exact law8_long1 lo hi neg plain b w h2 (by omega) hB
  · simp only [decide_eq_false h1] at hB
    exact law8_out lo hi neg plain b w hB
end Go.Proofs.Qxb6601063a
