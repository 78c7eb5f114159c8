/-
  The walk of the law 'FnRuleFromPrefixGrowsByAppending'.
-/
import Derived.Test.Qxb6601734aLaw5
namespace Go.Proofs.Qxb6601734a
open Go.ChangeShapes Go.WideShapes Go.ChangeAt Go.RowKit

/-- w' is w behind some draws. -/
def Dr (w w' : World) : Prop := ∃ q, w' = w.drewN q
theorem Dr.refl (w : World) : Dr w w := ⟨0, rfl⟩
theorem Dr.step {w w' : World} (h : Dr w w') (n : Nat) : Dr w (w'.drewN n) := by
  obtain ⟨q, rfl⟩ := h
  exact ⟨q + n, drewN_drewN w q n⟩
theorem Dr.sl {w w' : World} (h : Dr w w') {ao : Option Addr} {n cap : Nat} {cs : List Value} (hs : SlA w ao n cap cs) : SlA w' ao n cap cs := by
  obtain ⟨q, rfl⟩ := h
  exact hs
theorem Dr.below {w w' : World} (h : Dr w w') (B : Nat) : Below B w w' := by
  obtain ⟨q, rfl⟩ := h
  exact below_drewN B w q

set_option maxRecDepth 100000 in
set_option maxHeartbeats 2000000 in
theorem law4_walk (a : ByteArray) (o1 o2 o3 o4 o5 o6 : Option Addr) (n1 c1 n2 c2 n3 c3 n4 c4 n5 c5 n6 c6 : Nat) (kk : Int) (hkk : -9223372036854775808 ≤ kk ∧ kk ≤ 9223372036854775807) (s1 s2 s3 : List ByteArray) (zs : List Int) (ps qs : List Bool) (w : World)
    (H1 : Hid (SlA w o1 n1 c1 (s1.map Value.string))) (H2 : Hid (SlA w o2 n2 c2 (s2.map Value.string))) (H3 : Hid (SlA w o3 n3 c3 (s3.map Value.string)))
    (H4 : Hid (SlA w o4 n4 c4 (zs.map (Value.int .i64)))) (H5 : Hid (SlA w o5 n5 c5 (ps.map Value.bool))) (H6 : Hid (SlA w o6 n6 c6 (qs.map Value.bool))) :
    Calls Try.prog 4 #[.string a, .slice o1 n1 c1, .slice o2 n2 c2, .slice o3 n3 c3, .slice o4 n4 c4, .slice o5 n5 c5, .slice o6 n6 c6, .int .i64 kk] w fun e w' => e = .returned (.bool true) ∧ Below w.heap.size w w' := by
  have HB := bytes13_any a o1 o2 o3 o4 o5 o6 n1 c1 n2 c2 n3 c3 n4 c4 n5 c5 n6 c6 kk s1 s2 s3 w H1 H2 H3
  have HR := bounds_any a o1 o2 o3 o4 o5 o6 n1 c1 n2 c2 n3 c3 n4 c4 n5 c5 n6 c6 s1 s2 s3 w H1 H2 H3
  go_enter Try.func4, Try.ntmps4
  go_wp2_with fail
  refine HB.mono ?_
  rintro e w' ⟨⟨b, rfl⟩, hw⟩
  cases hw
  cases b with
  | false =>
    go_wp2
    go_ret
    exact ⟨rfl, Below.refl _ _⟩
  | true =>
    go_wp2_with fail
    refine HR.mono ?_
    rintro e w' ⟨⟨b, rfl, hb⟩, hw⟩
    cases hw
    cases b with
    | false =>
      go_wp2
      go_ret
      exact ⟨rfl, Below.refl _ _⟩
    | true =>
      obtain ⟨hn, rfl, rfl, rfl, rfl, rfl⟩ := hb rfl
      clear HB HR hb
      by_cases hkin : 0 ≤ kk ∧ kk ≤ n6
      case neg =>
        by_cases hk0 : kk < 0
        · clear hkin
          go_wp2
          go_ret
          exact ⟨rfl, Below.refl _ _⟩
        · have hk1 : (n6 : Int) < kk := by omega
          clear hkin
          go_wp2
          go_ret
          exact ⟨rfl, Below.refl _ _⟩
      obtain ⟨k, rfl⟩ : ∃ k : Nat, kk = (k : Int) := ⟨kk.toNat, by omega⟩
      have hkn : k ≤ n6 := by omega
      clear hkin hkk
      go_wp2_with fail
      refine (cloneTexts_any o1 n6 c1 s1 _ hn H1.out).mono ?_
      rintro e w1 ⟨p1, rfl, S1, B1⟩
      go_wp2_with fail
      refine (cloneTexts_any o2 n6 c2 s2 _ hn (H2.out.below B1)).mono ?_
      rintro e w2 ⟨p2, rfl, S2, B2⟩
      have C2 := B1.trans (B2.mono B1.size)
      go_wp2_with fail
      refine (cloneTexts_any o3 n6 c3 s3 _ hn (H3.out.below C2)).mono ?_
      rintro e w3 ⟨p3, rfl, S3, B3⟩
      have C3 := C2.trans (B3.mono C2.size)
      go_wp2_with fail
      refine (cloneInts_any o4 n6 c4 zs _ hn (H4.out.below C3)).mono ?_
      rintro e w4 ⟨p4, rfl, S4, B4⟩
      have C4 := C3.trans (B4.mono C3.size)
      go_wp2_with fail
      refine (cloneBools_any o5 n6 c5 ps _ hn (H5.out.below C4)).mono ?_
      rintro e w5 ⟨p5, rfl, S5, B5⟩
      have C5 := C4.trans (B5.mono C4.size)
      go_wp2_with fail
      refine (cloneBools_any o6 n6 c6 qs _ hn (H6.out.below C5)).mono ?_
      rintro e w6 ⟨p6, rfl, S6, B6⟩
      have C6 := C5.trans (B6.mono C5.size)
      have T5 := S5.below B6
      have T4 := (S4.below B5).below B6
      have T3 := ((S3.below B4).below B5).below B6
      have T2 := (((S2.below B3).below B4).below B5).below B6
      have T1 := ((((S1.below B2).below B3).below B4).below B5).below B6
      clear S1 S2 S3 S4 S5 B1 B2 B3 B4 B5 B6 C2 C3 C4 C5 H1 H2 H3 H4 H5 H6
      go_wp2_with fail
      obtain ⟨L, HL⟩ : ∃ L, Hid (Pl.dd s1 = L) := ⟨_, rfl⟩
      obtain ⟨r, HLr⟩ : ∃ r, Hid (L.length = r) := ⟨_, rfl⟩
      refine (rule_r a p1 p2 p3 p4 p5 p6 n6 n6 n6 n6 n6 n6 n6 s1 s2 s3 zs ps qs _ L r HL.out HLr.out hn T1 T2 T3 T4 T5 S6).mono ?_
      rintro e w7 ⟨ao, rfl, SO, BO, h0, h1⟩
      have C7 := C6.trans (BO.mono C6.size)
      have U1 := T1.below BO
      have U2 := T2.below BO
      have U3 := T3.below BO
      have U4 := T4.below BO
      have U5 := T5.below BO
      have U6 := S6.below BO
      clear T1 T2 T3 T4 T5 S6 BO C6
      obtain ⟨M, HM⟩ : ∃ M, Hid (Pl.dd (s1.take k) = M) := ⟨_, rfl⟩
      obtain ⟨m, HMm⟩ : ∃ m, Hid (M.length = m) := ⟨_, rfl⟩
      have HG : Hid (∃ R, L = M ++ R ∧ ∀ x ∈ R, Pl.has (s1.take k) x = false) := by
        have := Pl.dd_grows s1 k
        rw [HL.out, HM.out] at this
        exact this
      have hmr : m ≤ r := by
        obtain ⟨R, e, _⟩ := HG.out
        have e1 := HLr.out
        have e2 := HMm.out
        rw [e, List.length_append] at e1
        omega
      have hr4 : r ≤ 4096 := by
        have e1 : s1.length = n6 := by have := U1.1; simpa using this
        have e2 := Pl.dd_length s1
        have e3 := HL.out
        have e4 := HLr.out
        rw [e3] at e2
        omega
      have hk0 : (0 : Int) ≤ (k : Int) := by omega
      have hk1 : (k : Int) ≤ (n6 : Int) := by omega
      have HR2 := rule_r a p1 p2 p3 p4 p5 p6 k n6 n6 n6 n6 n6 n6 (s1.take k) (s2.take k) (s3.take k) (zs.take k) (ps.take k) (qs.take k) w7.drew M m HM.out HMm.out (by omega) (U1.takeS k hkn) (U2.takeS k hkn) (U3.takeS k hkn) (U4.takeS k hkn) (U5.takeS k hkn) (U6.takeS k hkn)
      have V1 := U1.takeS k hkn
      have HLL : Hid (Pl.dd s1 = L) := HL
      clear HL HM
      by_cases hn0 : n6 = 0
      · subst hn0
        obtain rfl : k = 0 := by omega
        have hr0 : r = 0 := by
          have e1 : s1.length = 0 := by have := U1.1; simpa using this
          have e2 := SO.1
          have e5 : s1 = [] := List.eq_nil_of_length_eq_zero e1
          obtain ⟨R, e, _⟩ := HG.out
          have e6 := HLL.out
          rw [e5] at e6
          have e7 := HLr.out
          rw [← e6] at e7
          exact e7.symm
        obtain rfl := hr0
        obtain rfl : m = 0 := by omega
        obtain rfl := h0 rfl
        clear h0 h1 U1 U2 U3 U4 U5 U6
        go_wp2_with fail
        go_region_held3 (fun _ => True) (trivial) ((go_at_call 11; refine HR2.mono ?_; rintro e w8 ⟨ao2, rfl, SA, BA0, h02, h12⟩; obtain rfl : ao2 = none := (by first | exact h02 rfl | exact h02 trivial | exact h02)))
        have BA : Below w7.heap.size w7 w8 := (below_drew w7).trans BA0
        have C8 : Below w.heap.size w w8 := C7.trans (BA.mono C7.size)
        clear HR2 SA SO V1 BA BA0 C7 h02 h12
        go_wp2
        refine wp_loop_rounds 1 ?_
        rw [rounds_succ]
        go_wp2
        refine wp_loop_rounds 1 ?_
        rw [rounds_succ]
        go_wp2
        go_ret
        exact ⟨rfl, C8⟩
      · obtain ⟨g1, f1, rfl, _, _⟩ := U1.2.2.2 (by omega)
        obtain ⟨g2, f2, rfl, _, _⟩ := U2.2.2.2 (by omega)
        obtain ⟨g3, f3, rfl, _, _⟩ := U3.2.2.2 (by omega)
        obtain ⟨g4, f4, rfl, _, _⟩ := U4.2.2.2 (by omega)
        obtain ⟨g5, f5, rfl, _, _⟩ := U5.2.2.2 (by omega)
        obtain ⟨g6, f6, rfl, _, _⟩ := U6.2.2.2 (by omega)
        clear U1 U2 U3 U4 U5 U6
        go_wp2_with fail
        go_region_held3 (fun _ => True) (trivial) ((go_at_call 11; refine HR2.mono ?_; rintro e w8 ⟨ao2, rfl, SA, BA0, h02, h12⟩))
        have BA : Below w7.heap.size w7 w8 := (below_drew w7).trans BA0
        have C8 : Below w.heap.size w w8 := C7.trans (BA.mono C7.size)
        have SW := SO.below BA
        have SF := V1.below BA
        clear HR2 SO V1 BA BA0 C7 h0 h1 h02 h12
        go_wp2
        go_loopw [19] (fun i wr => ∃ j q : Nat, j ≤ m ∧ i = .int .i64 j ∧ wr = w8.drewN q) (fun i _ => m - (intOf i).toNat)
        case atStart => exact ⟨0, 0, Nat.zero_le _, rfl, rfl⟩
        case round =>
          obtain ⟨j, q, hj, rfl, rfl⟩ := hrel
          by_cases hlt : j < m
          · obtain ⟨b1, e1, rfl, _, h1', hc1⟩ := SA.str j hlt
            obtain ⟨b2, e2, rfl, _, h2', hc2⟩ := SW.str j (by omega)
            have heq : L[j] = M[j] := Pl.grows_same HG.out j h1' h2'
            rw [heq] at hc2
            clear heq
            generalize M[j] = x at hc1 hc2
            have hk1 : (j : Int) < (m : Int) := by omega
            have hk2 : (j : Int) < (r : Int) := by omega
            go_wp2
            go_quiet (fail)
            go_wp2
            go_roundw
            case rel => exact ⟨j + 1, q + nq, by omega, by go_num, rfl⟩
            case measure => simp [intOf]; omega
          · obtain rfl : j = m := by omega
            go_wp2
            go_loopw [20] (fun i wr => ∃ t : Nat, j ≤ t ∧ t ≤ r ∧ i = .int .i64 t ∧ Dr w8 wr) (fun i _ => r - (intOf i).toNat)
            case atStart => exact ⟨j, Nat.le_refl _, hmr, rfl, ⟨q, rfl⟩⟩
            case round =>
              obtain ⟨t, ht1, ht2, rfl, hdr⟩ := hrel
              by_cases hlt2 : t < r
              · obtain ⟨b2, e2, rfl, _, h2', hc2⟩ := (hdr.sl SW).str t hlt2
                have HN : Hid (Pl.has (s1.take k) L[t] = false) := Pl.grows_new HG.out t (by rw [HMm.out]; exact ht1) h2'
                generalize L[t] = x at hc2 HN
                have HF : Hid (∀ q', Calls Try.prog 12 #[.slice (some ⟨g1, f1, none⟩) k n6, .string x] (wr.drewN q') fun e w' => e = .returned (.int .i64 (-1)) ∧ w' = wr.drewN q') := fun q' => firstIndex_none (some ⟨g1, f1, none⟩) k n6 (s1.take k) x (wr.drewN q') (by omega) (hdr.sl SF) HN
                have hk1 : (t : Int) < (r : Int) := by omega
                go_wp2
                go_quiet ((go_at_call 12; exact Calls.quiet_of_same (HF.out _)))
                go_wp2
                go_roundw
                case rel => exact ⟨t + 1, by omega, by omega, by go_num, hdr.step nq⟩
                case measure => simp [intOf]; omega
              · go_wp2
                go_ret
                exact ⟨rfl, C8.trans (hdr.below _)⟩
end Go.Proofs.Qxb6601734a
