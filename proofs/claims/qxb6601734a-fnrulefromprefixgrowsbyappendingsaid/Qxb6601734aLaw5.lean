/-
  The walk of the law 'FnRuleFromIdempotent'.
-/
import Derived.Test.Qxb6601734aRule
import Derived.Test.Qxb6601734aBounds
namespace Go.Proofs.Qxb6601734a
open Go.ChangeShapes Go.WideShapes Go.ChangeAt Go.RowKit

theorem SlA.takeS {w : World} {ao : Option Addr} {n cap : Nat} {T : Type} {f : T → Value} {cs : List T} (h : SlA w ao n cap (cs.map f)) (m : Nat) (hm : m ≤ n) : SlA w ao m cap ((cs.take m).map f) := by
  rw [List.map_take]; exact h.take m hm
theorem SlA.drew {w : World} {ao : Option Addr} {n cap : Nat} {cs : List Value} (h : SlA w ao n cap cs) : SlA w.drew ao n cap cs := h
theorem below_drew (w : World) : Below w.heap.size w w.drew := (Below.refl _ _).drew

/-- 'ZZRuleFrom', the length of its answer told by a letter. -/
theorem rule_r (by_ : ByteArray) (o1 o2 o3 o4 o5 o6 : Option Addr) (n c1 c2 c3 c4 c5 c6 : Nat) (ss tt cc : List ByteArray) (zs : List Int) (ps qs : List Bool) (w : World) (L : List ByteArray) (r : Nat) (hL : Pl.dd ss = L) (hr : L.length = r) (hn : n ≤ 4096)
    (H1 : SlA w o1 n c1 (ss.map Value.string)) (H2 : SlA w o2 n c2 (tt.map Value.string)) (H3 : SlA w o3 n c3 (cc.map Value.string))
    (H4 : SlA w o4 n c4 (zs.map (Value.int .i64))) (H5 : SlA w o5 n c5 (ps.map Value.bool)) (H6 : SlA w o6 n c6 (qs.map Value.bool)) :
    Calls Try.prog 11 #[.string by_, .slice o1 n c1, .slice o2 n c2, .slice o3 n c3, .slice o4 n c4, .slice o5 n c5, .slice o6 n c6] w fun e w' =>
      ∃ ao : Option Addr, e = .returned (.slice ao r r) ∧ SlA w' ao r r (L.map Value.string) ∧ Below w.heap.size w w' ∧ (r = 0 → ao = none) ∧ (0 < r → ∃ x, ao = some x) := by
  subst hL; subst hr
  refine (rule_any by_ o1 o2 o3 o4 o5 o6 n c1 c2 c3 c4 c5 c6 ss tt cc zs ps qs w hn H1 H2 H3 H4 H5 H6).mono ?_
  rintro e w' ⟨ao, rfl, hs, hb, h0⟩
  refine ⟨ao, rfl, hs, hb, h0.1, fun h => ?_⟩
  cases ao with
  | none => have := h0.2 rfl; omega
  | some x => exact ⟨x, rfl⟩

set_option maxRecDepth 100000 in
set_option maxHeartbeats 2000000 in
theorem law5_walk (a : ByteArray) (o1 o2 o3 o4 o5 o6 : Option Addr) (n1 c1 n2 c2 n3 c3 n4 c4 n5 c5 n6 c6 : Nat) (s1 s2 s3 : List ByteArray) (zs : List Int) (ps qs : List Bool) (w : World)
    (H1 : Hid (SlA w o1 n1 c1 (s1.map Value.string))) (H2 : Hid (SlA w o2 n2 c2 (s2.map Value.string))) (H3 : Hid (SlA w o3 n3 c3 (s3.map Value.string)))
    (H4 : Hid (SlA w o4 n4 c4 (zs.map (Value.int .i64)))) (H5 : Hid (SlA w o5 n5 c5 (ps.map Value.bool))) (H6 : Hid (SlA w o6 n6 c6 (qs.map Value.bool))) :
    Calls Try.prog 5 #[.string a, .slice o1 n1 c1, .slice o2 n2 c2, .slice o3 n3 c3, .slice o4 n4 c4, .slice o5 n5 c5, .slice o6 n6 c6] w fun e w' => e = .returned (.bool true) ∧ Below w.heap.size w w' := by
  have HB := bytes14_any a o1 o2 o3 o4 o5 o6 n1 c1 n2 c2 n3 c3 n4 c4 n5 c5 n6 c6 s1 s2 s3 w H1 H2 H3
  have HR := bounds_any a o1 o2 o3 o4 o5 o6 n1 c1 n2 c2 n3 c3 n4 c4 n5 c5 n6 c6 s1 s2 s3 w H1 H2 H3
  go_enter Try.func5, Try.ntmps5
  go_wp2_with fail
  refine HB.mono ?_
  rintro e w' ⟨⟨b, rfl⟩, hw⟩
  cases hw
  cases b with
  | false =>
    go_wp2
    go_ret
    exact ⟨rfl, Below.refl _ _⟩
  | true =>
    go_wp2_with fail
    refine HR.mono ?_
    rintro e w' ⟨⟨b, rfl, hb⟩, hw⟩
    cases hw
    cases b with
    | false =>
      go_wp2
      go_ret
      exact ⟨rfl, Below.refl _ _⟩
    | true =>
      obtain ⟨hn, rfl, rfl, rfl, rfl, rfl⟩ := hb rfl
      clear HB HR hb
      go_wp2_with fail
      refine (cloneTexts_any o1 n6 c1 s1 _ hn H1.out).mono ?_
      rintro e w1 ⟨p1, rfl, S1, B1⟩
      go_wp2_with fail
      refine (cloneTexts_any o2 n6 c2 s2 _ hn (H2.out.below B1)).mono ?_
      rintro e w2 ⟨p2, rfl, S2, B2⟩
      have C2 := B1.trans (B2.mono B1.size)
      go_wp2_with fail
      refine (cloneTexts_any o3 n6 c3 s3 _ hn (H3.out.below C2)).mono ?_
      rintro e w3 ⟨p3, rfl, S3, B3⟩
      have C3 := C2.trans (B3.mono C2.size)
      go_wp2_with fail
      refine (cloneInts_any o4 n6 c4 zs _ hn (H4.out.below C3)).mono ?_
      rintro e w4 ⟨p4, rfl, S4, B4⟩
      have C4 := C3.trans (B4.mono C3.size)
      go_wp2_with fail
      refine (cloneBools_any o5 n6 c5 ps _ hn (H5.out.below C4)).mono ?_
      rintro e w5 ⟨p5, rfl, S5, B5⟩
      have C5 := C4.trans (B5.mono C4.size)
      go_wp2_with fail
      refine (cloneBools_any o6 n6 c6 qs _ hn (H6.out.below C5)).mono ?_
      rintro e w6 ⟨p6, rfl, S6, B6⟩
      have C6 := C5.trans (B6.mono C5.size)
      have T5 := S5.below B6
      have T4 := (S4.below B5).below B6
      have T3 := ((S3.below B4).below B5).below B6
      have T2 := (((S2.below B3).below B4).below B5).below B6
      have T1 := ((((S1.below B2).below B3).below B4).below B5).below B6
      clear S1 S2 S3 S4 S5 B1 B2 B3 B4 B5 B6 C2 C3 C4 C5 H1 H2 H3 H4 H5 H6
      go_wp2_with fail
      obtain ⟨L, HL⟩ : ∃ L, Hid (Pl.dd s1 = L) := ⟨_, rfl⟩
      obtain ⟨r, HLr⟩ : ∃ r, Hid (L.length = r) := ⟨_, rfl⟩
      refine (rule_r a p1 p2 p3 p4 p5 p6 n6 n6 n6 n6 n6 n6 n6 s1 s2 s3 zs ps qs _ L r HL.out HLr.out hn T1 T2 T3 T4 T5 S6).mono ?_
      rintro e w7 ⟨ao, rfl, SO, BO, h0, h1⟩
      have C7 := C6.trans (BO.mono C6.size)
      have U2 := T2.below BO
      have U3 := T3.below BO
      have U4 := T4.below BO
      have U5 := T5.below BO
      have U6 := S6.below BO
      have hL : r ≤ n6 := by
        have e1 : s1.length = n6 := by have := T1.1; simpa using this
        have e2 := Pl.dd_length s1
        have e3 := HL.out
        have e4 := HLr.out
        rw [e3] at e2
        omega
      clear T1 T2 T3 T4 T5 S6 BO C6
      have HDD : Hid (Pl.dd L = L) := by
        have := Pl.dd_dd s1
        rw [HL.out] at this
        exact this
      have hr0 : (0 : Int) ≤ (r : Int) := by omega
      have hr1 : (r : Int) ≤ (n6 : Int) := by omega
      have HR2 := rule_r a ao p2 p3 p4 p5 p6 r r n6 n6 n6 n6 n6 L (s2.take r) (s3.take r) (zs.take r) (ps.take r) (qs.take r) w7.drew L r HDD.out HLr.out (by omega) SO (U2.takeS r hL) (U3.takeS r hL) (U4.takeS r hL) (U5.takeS r hL) (U6.takeS r hL)
      clear HL HLr HDD
      by_cases hn0 : n6 = 0
      · subst hn0
        obtain rfl : r = 0 := by omega
        obtain rfl := h0 rfl
        clear h0 h1 U2 U3 U4 U5 U6
        have hq := fun w => Lib.run_eql_slice_nil (P := Try.prog) w 22 9 none 0 0 0 0 Try.underlying22
        go_wp2_with fail
        go_region_held3 (fun _ => True) (trivial) ((go_at_call 11; refine HR2.mono ?_; rintro e w8 ⟨ao2, rfl, SA, BA0, h02, h12⟩; obtain rfl : ao2 = none := (by first | exact h02 rfl | exact h02 trivial | exact h02)))
        have BA : Below w7.heap.size w7 w8 := (below_drew w7).trans BA0
        have C8 : Below w.heap.size w w8 := C7.trans (BA.mono C7.size)
        have HS := same_any none none 0 0 0 L w8 (by omega) SA (SO.below BA)
        clear HR2
        go_wp2_with fail
        refine HS.mono ?_
        rintro e w9 ⟨rfl, q, rfl⟩
        go_wp2
        go_ret
        exact ⟨rfl, C8.trans (below_drewN _ _ _)⟩
      · obtain ⟨g2, f2, rfl, _, _⟩ := U2.2.2.2 (by omega)
        obtain ⟨g3, f3, rfl, _, _⟩ := U3.2.2.2 (by omega)
        obtain ⟨g4, f4, rfl, _, _⟩ := U4.2.2.2 (by omega)
        obtain ⟨g5, f5, rfl, _, _⟩ := U5.2.2.2 (by omega)
        obtain ⟨g6, f6, rfl, _, _⟩ := U6.2.2.2 (by omega)
        clear U2 U3 U4 U5 U6
        go_wp2_with fail
        go_region_held3 (fun _ => True) (trivial) ((go_at_call 11; refine HR2.mono ?_; rintro e w8 ⟨ao2, rfl, SA, BA0, h02, h12⟩))
        have BA : Below w7.heap.size w7 w8 := (below_drew w7).trans BA0
        have C8 : Below w.heap.size w w8 := C7.trans (BA.mono C7.size)
        have HS := same_any ao2 ao r r r L w8 (by omega) SA (SO.below BA)
        clear HR2 SA SO BA BA0 C7
        by_cases hr : r = 0
        · subst hr
          obtain rfl := h0 rfl
          obtain rfl := h02 rfl
          clear h0 h02 h1 h12
          have hq := fun w => Lib.run_eql_slice_nil (P := Try.prog) w 22 9 none 0 0 0 0 Try.underlying22
          go_wp2_with fail
          refine HS.mono ?_
          rintro e w9 ⟨rfl, q, rfl⟩
          go_wp2
          go_ret
          exact ⟨rfl, C8.trans (below_drewN _ _ _)⟩
        · obtain ⟨x, rfl⟩ := h1 (by omega)
          obtain ⟨y, rfl⟩ := h12 (by omega)
          clear h0 h02 h1 h12
          have hq1 := fun w => Lib.run_eql_slice_nil (P := Try.prog) w 22 9 (some x) r r 0 0 Try.underlying22
          have hq2 := fun w => Lib.run_eql_slice_nil (P := Try.prog) w 22 9 (some y) r r 0 0 Try.underlying22
          go_wp2_with fail
          refine HS.mono ?_
          rintro e w9 ⟨rfl, q, rfl⟩
          go_wp2
          go_ret
          exact ⟨rfl, C8.trans (below_drewN _ _ _)⟩
end Go.Proofs.Qxb6601734a
