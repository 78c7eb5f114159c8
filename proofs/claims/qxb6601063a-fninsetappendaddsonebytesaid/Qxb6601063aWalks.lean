/-
  The walks of 'inSet' and of what it calls.
-/
import Derived.Test.Qxb6601063aRows
import Derived.Test.Qxb6601063aPlain
import Derived.WalkKit
import Derived.ProofKit
import Derived.Outline
import Derived.WalkSpells
import Derived.WalkLawsBesides
import Derived.Deep.DeepCutAuto
namespace Go.Proofs.Qxb6601063a
open Go.ChangeShapes Go.WideShapes Go.ChangeAt Go.RowKit

theorem prefix_yes (s : ByteArray) (w : World) (hs : s.size ≤ 4194304) (h : Pl.first94 s = true) :
    Calls Try.prog 26 #[.string s, .string ⟨#[94]⟩] w fun e w' => e = .returned (.bool true) ∧ w' = w := by
  unfold Pl.first94 at h
  rw [Bool.and_eq_true, decide_eq_true_eq] at h
  obtain ⟨h1, h2⟩ := h
  go_enter Try.func26, Try.ntmps26
  go_wp2
  go_ret
  exact ⟨rfl, rfl⟩
theorem prefix_no (s : ByteArray) (w : World) (hs : s.size ≤ 4194304) (h : Pl.first94 s = false) :
    Calls Try.prog 26 #[.string s, .string ⟨#[94]⟩] w fun e w' => e = .returned (.bool false) ∧ w' = w := by
  unfold Pl.first94 at h
  by_cases h1 : 1 ≤ s.size
  · rw [decide_eq_true h1, Bool.true_and] at h
    go_enter Try.func26, Try.ntmps26
    go_wp2
    go_ret
    exact ⟨rfl, rfl⟩
  · clear h
    go_enter Try.func26, Try.ntmps26
    go_wp2
    go_ret
    exact ⟨rfl, rfl⟩

theorem ret_bool {a b : Bool} (h : a = b) : Ending.returned (.bool a) = .returned (.bool b) := by rw [h]
set_option maxRecDepth 100000 in
set_option maxHeartbeats 1000000 in
theorem inSet_loop (s u : ByteArray) (ng : Bool) (b : Int) (w : World) (hu : u.size ≤ 4194304) (hn : Hid (ng = true → 1 ≤ s.size))
    (HU : Hid (u = if ng then s.extract 1 s.size else s))
    (C1 : Hid (∀ w, Calls Try.prog 26 #[.string s, .string ⟨#[94]⟩] w fun e w' => e = .returned (.bool ng) ∧ w' = w)) :
    Calls Try.prog 24 #[.string s, .int .u8 b] w fun e w' => e = .returned (.bool (!(Pl.scan b u.data.toList == ng))) ∧ w' = w := by
  go_enter Try.func24, Try.ntmps24
  go_upto_if 12 with (go_at_call 26; refine (C1.out _).mono ?_; rintro e w' ⟨rfl, rfl⟩)
  go_cut [0] (fun s0 wc => s0 = .string u ∧ wc = w')
  case first =>
    cases ng with
    | true =>
      have h1 := hn.out rfl
      go_wp2
      go_meet
      case rel => exact ⟨by rw [HU.out]; rfl, rfl⟩
    | false =>
      go_wp2
      go_meet
      case rel => exact ⟨by rw [HU.out]; rfl, rfl⟩
  case rest =>
    obtain ⟨rfl, rfl⟩ := hcut
    go_wp2_with fail
    go_loop [6, 7] (fun f i => ∃ (k : Nat) (F : Bool), k ≤ u.size ∧ i = .int .i64 k ∧ f = .bool F ∧ Hid ((F || Pl.scan b (u.data.toList.drop k)) = Pl.scan b u.data.toList)) (fun _ i => u.size - (intOf i).toNat)
    case atStart => exact ⟨0, false, Nat.zero_le _, rfl, rfl, rfl⟩
    case round =>
      obtain ⟨k, F, hk, rfl, rfl, HQ⟩ := hrel
      by_cases hlt : k < u.size
      · go_upto_region 9 with fail
        go_cut [32] (fun t wx => ∃ e1 : Bool, t = .bool e1 ∧ wx = wc ∧ Hid (e1 = (((u[k].toNat : Int) == 92) && decide ((k : Int) + 1 < (u.size : Int)))))
        case first =>
          cases hc : ((u[k].toNat : Int) == 92) with
          | false =>
            go_wp2
            go_meet
            case rel => exact ⟨_, rfl, rfl, by show _ = _; rw [hc]; rfl⟩
          | true =>
            by_cases h1 : k + 1 < u.size
            · go_wp2
              go_meet
              case rel => exact ⟨_, rfl, rfl, by show _ = _; rw [hc]; rfl⟩
            · go_wp2
              go_meet
              case rel => exact ⟨_, rfl, rfl, by show _ = _; rw [hc]; rfl⟩
        case rest =>
          obtain ⟨e1, rfl, rfl, HE⟩ := hcut
          go_upto_if 32 with fail
          go_cut [7, 8] (fun i lo wx => ∃ (k1 : Nat) (c1 : UInt8), i = .int .i64 k1 ∧ lo = .int .u8 c1.toNat ∧ wx = wc ∧ Pl.Rd u k c1 k1)
          case first =>
            cases e1 with
            | false =>
              go_wp2
              go_meet
              case rel => exact ⟨k, u[k], rfl, rfl, rfl, Pl.Rd_miss u k hlt HE.out⟩
            | true =>
              have h1 := Pl.Rd_hit u k hlt HE.out
              obtain ⟨h2, h1⟩ := h1
              go_wp2
              go_meet
              case rel => exact ⟨k + 1, u[k + 1], by go_num, rfl, rfl, h1⟩
          case rest =>
            obtain ⟨k1, c1, rfl, rfl, rfl, HR⟩ := hcut
            have hk1 : k1 < u.size := HR.2.1
            clear HE
            go_upto_region 13 with fail
            go_cut [50] (fun t wx => ∃ e2 : Bool, t = .bool e2 ∧ wx = wc ∧ Hid (Pl.Dash u k1 e2))
            case first =>
              by_cases h2 : k1 + 2 < u.size
              · have HD : Hid (∀ e, ((u[k1 + 1].toNat : Int) == 45) = e → Pl.Dash u k1 e) := Pl.Dash_at u k1 h2
                go_wp2
                go_meet
                case rel => exact ⟨_, rfl, rfl, HD.out _ rfl⟩
              · go_wp2
                go_meet
                case rel => exact ⟨_, rfl, rfl, Pl.Dash_short u k1 h2⟩
            case rest =>
              obtain ⟨e2, rfl, rfl, HD⟩ := hcut
              go_upto_if 50 with fail
              go_cut [7, 9] (fun i hi wx => ∃ (k2 : Nat) (c2 : UInt8), i = .int .i64 k2 ∧ hi = .int .u8 c2.toNat ∧ wx = wc ∧ Pl.Tl u c1 k1 c2 k2)
              case first =>
                cases e2 with
                | false =>
                  go_wp2
                  go_meet
                  case rel => exact ⟨k1, c1, rfl, rfl, rfl, Pl.Tl_miss u c1 k1 hk1 HD.out⟩
                | true =>
                  have h2 : k1 + 2 < u.size := (HD.out.1 rfl).1
                  cases hc : ((u[k1 + 2].toNat : Int) == 92) with
                  | false =>
                    have HT : Hid (Pl.Tl u c1 k1 u[k1 + 2] (k1 + 2)) := Pl.Tl_hit u c1 k1 _ _ HD.out (Pl.Rd_plain u (k1 + 2) h2 hc)
                    go_wp2
                    go_meet
                    case rel => exact ⟨k1 + 2, u[k1 + 2], by go_num, rfl, rfl, HT.out⟩
                  | true =>
                    by_cases h3 : k1 + 3 < u.size
                    · have HT : Hid (Pl.Tl u c1 k1 u[k1 + 3] (k1 + 3)) := Pl.Tl_hit u c1 k1 _ _ HD.out (Pl.Rd_esc u (k1 + 2) h3 hc)
                      go_wp2
                      go_meet
                      case rel => exact ⟨k1 + 3, u[k1 + 3], by go_num, rfl, rfl, HT.out⟩
                    · have HT : Hid (Pl.Tl u c1 k1 u[k1 + 2] (k1 + 2)) := Pl.Tl_hit u c1 k1 _ _ HD.out (Pl.Rd_end u (k1 + 2) h2 hc (by omega))
                      go_wp2
                      go_meet
                      case rel => exact ⟨k1 + 2, u[k1 + 2], by go_num, rfl, rfl, HT.out⟩
              case rest =>
                obtain ⟨k2, c2, rfl, rfl, rfl, HT⟩ := hcut
                have hk2 : k2 < u.size := HT.2.1
                have hk3 : k ≤ k2 := Nat.le_trans HR.1 HT.1
                clear HD
                go_wp2
                all_goals
                  go_round
                  case rel => first | exact ⟨k2 + 1, true, by omega, by go_num, rfl, Pl.round_yes u b F k k1 k2 c1 c2 HR HT HQ.out (by omega)⟩ | exact ⟨k2 + 1, F, by omega, by go_num, rfl, Pl.round_no u b F k k1 k2 c1 c2 HR HT HQ.out (by omega)⟩
                  case measure => simp [intOf]; omega
      · go_wp2
        go_ret
        refine ⟨ret_bool ?_, rfl⟩
        have hq := HQ.out
        rw [Pl.drop_end u k (by omega), Pl.scan_nil, Bool.or_false] at hq
        rw [hq]

theorem first_size (s : ByteArray) (h : Pl.first94 s = true) : 1 ≤ s.size := by
  unfold Pl.first94 at h
  rw [Bool.and_eq_true, decide_eq_true_eq] at h
  exact h.1
/-- 'inSet' answers what the plain function says. -/
theorem inSet_any (s : ByteArray) (b : Int) (w : World) (hs : s.size ≤ 4194304) :
    Calls Try.prog 24 #[.string s, .int .u8 b] w fun e w' => e = .returned (.bool (Pl.inSet s.data.toList b)) ∧ w' = w := by
  cases h : Pl.first94 s with
  | true =>
    have hz : (s.extract 1 s.size).size ≤ 4194304 := by simp; omega
    have := inSet_loop s (s.extract 1 s.size) true b w hz (fun _ => first_size s h) rfl (fun w => prefix_yes s w hs h)
    rw [Pl.inSet_neg s b h]
    have e : (!(Pl.scan b (s.extract 1 s.size).data.toList == true)) = !(Pl.scan b (s.extract 1 s.size).data.toList) := by simp
    rwa [e] at this
  | false =>
    have := inSet_loop s s false b w hs (fun e => by cases e) rfl (fun w => prefix_no s w hs h)
    rw [Pl.inSet_pos s b h]
    have e : (!(Pl.scan b s.data.toList == false)) = Pl.scan b s.data.toList := by simp
    rwa [e] at this
theorem zzinSet_any (s : ByteArray) (b : Int) (w : World) (hs : s.size ≤ 4194304) :
    Calls Try.prog 20 #[.string s, .int .u8 b] w fun e w' => e = .returned (.bool (Pl.inSet s.data.toList b)) ∧ w' = w := by
  go_enter Try.func20, Try.ntmps20
  go_wp2_with (go_at_call 24; refine (inSet_any _ _ _ hs).mono ?_; rintro e w' ⟨rfl, rfl⟩)
  go_ret
  exact ⟨rfl, rfl⟩
end Go.Proofs.Qxb6601063a
