/-
  'ZZRuleFrom'.
-/
import Derived.Test.Qxb6601734aFrom
import Derived.Test.Qxb6601734aClones
import Derived.Deep.RegionHeld3
namespace Go.Proofs.Qxb6601734a
open Go.ChangeShapes Go.WideShapes Go.ChangeAt Go.RowKit

theorem Try.info39 : (Try.prog.info? 39).map (fun i => (i.zero, i.size, i.bytes)) = some (some (.agg #[.string ⟨#[]⟩, .string ⟨#[]⟩, .string ⟨#[]⟩, .int .i64 0, .bool false, .bool false]), 6, 64) := by kernel_rfl

/-- The moves' row, its first k moves laid. -/
def Fill6 (w : World) (g n k : Nat) (ss : List ByteArray) (wr : World) : Prop :=
  ∃ xs : List Value, wr.ownsRow w.heap.size 39 6 (.slice (some ⟨g, 0, none⟩) n n) n xs ∧ Below w.heap.size w wr ∧
    ∀ j (h : j < k) (h' : j < ss.length), ∃ (t c : ByteArray) (z : Int) (p q : Bool), xs[j * 6]? = some (.string ss[j]) ∧ xs[j * 6 + 1]? = some (.string t) ∧ xs[j * 6 + 2]? = some (.string c) ∧
      xs[j * 6 + 3]? = some (.int .i64 z) ∧ xs[j * 6 + 4]? = some (.bool p) ∧ xs[j * 6 + 5]? = some (.bool q)

theorem Fill6.below {w : World} {g n k : Nat} {ss : List ByteArray} {wr : World} (h : Fill6 w g n k ss wr) : Below w.heap.size w wr := by
  obtain ⟨xs, ho, hb, hx⟩ := h
  exact hb
theorem Fill6.free {w : World} {g n k : Nat} {ss : List ByteArray} {wr : World} (h : Fill6 w g n k ss wr) {j : Nat} : wr.frozen? ⟨g, j, none⟩ = false := by
  obtain ⟨xs, ho, hb, hx⟩ := h
  exact ho.frozenAt j
theorem Fill6.cell {w : World} {g n k : Nat} {ss : List ByteArray} {wr : World} (h : Fill6 w g n k ss wr) (j : Nat) (hj : j < n * 6) : ∃ v, wr.cell? ⟨g, j, none⟩ = some v := by
  obtain ⟨xs, ho, hb, hx⟩ := h
  exact ⟨_, (ho.cellAt j hj).trans (List.getElem?_eq_getElem (by rw [ho.1]; exact hj))⟩
theorem Fill6.cells {w : World} {g n k : Nat} {ss : List ByteArray} {wr : World} (h : Fill6 w g n k ss wr) (hk : k < n) : ∃ v0 v1 v2 v3 v4 v5, wr.cell? ⟨g, k * 6, none⟩ = some v0 ∧ wr.cell? ⟨g, k * 6 + 1, none⟩ = some v1 ∧
    wr.cell? ⟨g, k * 6 + 2, none⟩ = some v2 ∧ wr.cell? ⟨g, k * 6 + 3, none⟩ = some v3 ∧ wr.cell? ⟨g, k * 6 + 4, none⟩ = some v4 ∧ wr.cell? ⟨g, k * 6 + 5, none⟩ = some v5 := by
  obtain ⟨v0, h0⟩ := h.cell (k * 6) (by omega)
  obtain ⟨v1, h1⟩ := h.cell (k * 6 + 1) (by omega)
  obtain ⟨v2, h2⟩ := h.cell (k * 6 + 2) (by omega)
  obtain ⟨v3, h3⟩ := h.cell (k * 6 + 3) (by omega)
  obtain ⟨v4, h4⟩ := h.cell (k * 6 + 4) (by omega)
  obtain ⟨v5, h5⟩ := h.cell (k * 6 + 5) (by omega)
  exact ⟨v0, v1, v2, v3, v4, v5, h0, h1, h2, h3, h4, h5⟩
theorem far1 (wr : World) (g a : Nat) (v : Value) (b f : Nat) (h : b ≠ g) : (wr.setCell ⟨g, a, none⟩ v).cell? ⟨b, f, none⟩ = wr.cell? ⟨b, f, none⟩ := by
  apply World.cell?_setCell_other
  intro e
  injection e with e1
  exact h e1.symm
/-- One move more. -/
theorem Fill6.step {w : World} {g n k : Nat} {ss : List ByteArray} {wr : World} (h : Fill6 w g n k ss wr) (hg : w.heap.size ≤ g) (hk : k < n) (hl : k < ss.length) (t c : ByteArray) (z : Int) (p q : Bool) :
    Fill6 w g n (k + 1) ss ((((((wr.setCell ⟨g, k * 6, none⟩ (.string ss[k])).setCell ⟨g, k * 6 + 1, none⟩ (.string t)).setCell ⟨g, k * 6 + 2, none⟩ (.string c)).setCell ⟨g, k * 6 + 3, none⟩ (.int .i64 z)).setCell ⟨g, k * 6 + 4, none⟩ (.bool p)).setCell ⟨g, k * 6 + 5, none⟩ (.bool q)) := by
  obtain ⟨xs, ho, hb, hx⟩ := h
  have hxl : xs.length = n * 6 := ho.1
  have o0 := (ho.stored (k * 6) (.string ss[k])).1
  have o1 := (o0.stored (k * 6 + 1) (.string t)).1
  have o2 := (o1.stored (k * 6 + 2) (.string c)).1
  have o3 := (o2.stored (k * 6 + 3) (.int .i64 z)).1
  have o4 := (o3.stored (k * 6 + 4) (.bool p)).1
  have o5 := (o4.stored (k * 6 + 5) (.bool q)).1
  refine ⟨_, o5, (((((hb.setCell hg _).setCell hg _).setCell hg _).setCell hg _).setCell hg _).setCell hg _, fun j hj hj' => ?_⟩
  by_cases e : j = k
  · subst e
    refine ⟨t, c, z, p, q, ?_, ?_, ?_, ?_, ?_, ?_⟩ <;> simp only [List.getElem?_set, List.length_set] <;> simp <;> omega
  · obtain ⟨t', c', z', p', q', h0, h1, h2, h3, h4, h5⟩ := hx j (by omega) hj'
    refine ⟨t', c', z', p', q', ?_, ?_, ?_, ?_, ?_, ?_⟩
    · rw [List.getElem?_set_ne (by omega), List.getElem?_set_ne (by omega), List.getElem?_set_ne (by omega), List.getElem?_set_ne (by omega), List.getElem?_set_ne (by omega), List.getElem?_set_ne (by omega)]; exact h0
    · rw [List.getElem?_set_ne (by omega), List.getElem?_set_ne (by omega), List.getElem?_set_ne (by omega), List.getElem?_set_ne (by omega), List.getElem?_set_ne (by omega), List.getElem?_set_ne (by omega)]; exact h1
    · rw [List.getElem?_set_ne (by omega), List.getElem?_set_ne (by omega), List.getElem?_set_ne (by omega), List.getElem?_set_ne (by omega), List.getElem?_set_ne (by omega), List.getElem?_set_ne (by omega)]; exact h2
    · rw [List.getElem?_set_ne (by omega), List.getElem?_set_ne (by omega), List.getElem?_set_ne (by omega), List.getElem?_set_ne (by omega), List.getElem?_set_ne (by omega), List.getElem?_set_ne (by omega)]; exact h3
    · rw [List.getElem?_set_ne (by omega), List.getElem?_set_ne (by omega), List.getElem?_set_ne (by omega), List.getElem?_set_ne (by omega), List.getElem?_set_ne (by omega), List.getElem?_set_ne (by omega)]; exact h4
    · rw [List.getElem?_set_ne (by omega), List.getElem?_set_ne (by omega), List.getElem?_set_ne (by omega), List.getElem?_set_ne (by omega), List.getElem?_set_ne (by omega), List.getElem?_set_ne (by omega)]; exact h5
theorem Fill6.drew {w : World} {g n k : Nat} {ss : List ByteArray} {wr : World} (h : Fill6 w g n k ss wr) : Fill6 w g n k ss wr.drew := by
  obtain ⟨xs, ho, hb, hx⟩ := h
  exact ⟨xs, ho.drew, hb.drew, hx⟩
theorem Fill6.inside {w : World} {g n k : Nat} {ss : List ByteArray} {wr : World} (h : Fill6 w g n k ss wr) : g < wr.heap.size := by
  obtain ⟨xs, ho, hb, hx⟩ := h
  rcases ho.2 with ⟨h', _⟩ | ⟨g', cap', cur, h', _, hg, _⟩
  · simp at h'
  · simp only [Value.slice.injEq, Option.some.injEq, Addr.mk.injEq, and_true, true_and] at h'
    obtain ⟨rfl, _⟩ := h'
    exact (Array.getElem?_eq_some_iff.1 hg).1
/-- All moves laid. -/
theorem Fill6.done {w : World} {g n : Nat} {ss : List ByteArray} {wr : World} (h : Fill6 w g n n ss wr) (hl : ss.length = n) (hg : 0 < n → g < wr.heap.size) : Mv wr (some ⟨g, 0, none⟩) n ss := by
  obtain ⟨xs, ho, hb, hx⟩ := h
  refine ⟨hl, fun hn => ⟨g, rfl, hg hn, fun j hj => ?_⟩⟩
  obtain ⟨t, c, z, p, q, h0, h1, h2, h3, h4, h5⟩ := hx j (by omega) hj
  exact ⟨t, c, z, p, q, (ho.cellAt _ (by omega)).trans h0, (ho.cellAt _ (by omega)).trans h1, (ho.cellAt _ (by omega)).trans h2, (ho.cellAt _ (by omega)).trans h3, (ho.cellAt _ (by omega)).trans h4, (ho.cellAt _ (by omega)).trans h5⟩

set_option maxRecDepth 100000 in
set_option maxHeartbeats 1000000 in
theorem rule_some (by_ : ByteArray) (a1 : Addr) (o2 o3 o4 o5 o6 : Option Addr) (n c1 c2 c3 c4 c5 c6 : Nat) (ss tt cc : List ByteArray) (zs : List Int) (ps qs : List Bool) (w : World) (hn : n ≤ 4096)
    (H1 : Hid (SlA w (some a1) n c1 (ss.map Value.string))) (H2 : Hid (SlA w o2 n c2 (tt.map Value.string))) (H3 : Hid (SlA w o3 n c3 (cc.map Value.string)))
    (H4 : Hid (SlA w o4 n c4 (zs.map (Value.int .i64)))) (H5 : Hid (SlA w o5 n c5 (ps.map Value.bool))) (H6 : Hid (SlA w o6 n c6 (qs.map Value.bool))) :
    Calls Try.prog 11 #[.string by_, .slice (some a1) n c1, .slice o2 n c2, .slice o3 n c3, .slice o4 n c4, .slice o5 n c5, .slice o6 n c6] w fun e w' => ∃ (r : Nat) (ao : Option Addr), e = .returned (.slice ao r r) ∧ SlA w' ao r r ((Pl.dd ss).map Value.string) ∧ Below w.heap.size w w' ∧ (r = 0 → ao = none) := by
  obtain ⟨i0, hi, hz0, hz1, hz2⟩ := info_parts Try.info39
  go_enter Try.func11, Try.ntmps11
  go_wp2_with (at_make; refine wpList_make_full _ rfl _ _ 34 rfl w.heap.size 39 i0 (.agg #[.string ⟨#[]⟩, .string ⟨#[]⟩, .string ⟨#[]⟩, .int .i64 0, .bool false, .bool false]) 6 Try.underlying34 hi hz0 hz1 _ _ _ _ n rfl rfl rfl rfl ?b2 ?b3 (Nat.le_refl _) ?_)
  case b2 => rw [hz2]; omega
  case b3 => unfold maxLen; omega
  intro w0 hown0 hgrow0
  have hf0 : Fill6 w w.heap.size n 0 ss w0 := ⟨_, hown0, (Below.refl _ _).grown hgrow0 (Nat.le_refl _) (fun k h => by cases h), fun j h => absurd h (by omega)⟩
  clear hown0 hgrow0 hz0 hz1 hz2 hi
  go_wp2
  go_loopw [16] (fun i wr => ∃ k : Nat, k ≤ n ∧ i = .int .i64 k ∧ Fill6 w w.heap.size n k ss wr) (fun i _ => n - (intOf i).toNat)
  case atStart => exact ⟨0, Nat.zero_le _, rfl, hf0⟩
  case round =>
    obtain ⟨k, hk, rfl, hf⟩ := hrel
    clear hf0
    by_cases hlt : k < n
    · obtain ⟨b1, f1, hab, hb1, h1', d1⟩ := H1.out.at k hlt
      cases hab
      obtain ⟨b2, f2, rfl, hb2, h2', d2⟩ := H2.out.at k hlt
      obtain ⟨b3, f3, rfl, hb3, h3', d3⟩ := H3.out.at k hlt
      obtain ⟨b4, f4, rfl, hb4, h4', d4⟩ := H4.out.at k hlt
      obtain ⟨b5, f5, rfl, hb5, h5', d5⟩ := H5.out.at k hlt
      obtain ⟨b6, f6, rfl, hb6, h6', d6⟩ := H6.out.at k hlt
      simp only [List.getElem_map] at d1 d2 d3 d4 d5 d6
      have hbl := hf.below
      have e1 := (hbl.cell (p := ⟨b1, f1 + k, none⟩) hb1).trans d1
      have e2 := (hbl.cell (p := ⟨b2, f2 + k, none⟩) hb2).trans d2
      have e3 := (hbl.cell (p := ⟨b3, f3 + k, none⟩) hb3).trans d3
      have e4 := (hbl.cell (p := ⟨b4, f4 + k, none⟩) hb4).trans d4
      have e5 := (hbl.cell (p := ⟨b5, f5 + k, none⟩) hb5).trans d5
      have e6 := (hbl.cell (p := ⟨b6, f6 + k, none⟩) hb6).trans d6
      clear d1 d2 d3 d4 d5 d6 hbl
      have hst := hf.step (Nat.le_refl _) hlt (by simpa using h1')
      obtain ⟨v0, v1, v2, v3, v4, v5, g0, g1, g2, g3, g4, g5⟩ := hf.cells hlt
      have r0 := hf.free (j := k * 6)
      have r1 := hf.free (j := k * 6 + 1)
      have r2 := hf.free (j := k * 6 + 2)
      have r3 := hf.free (j := k * 6 + 3)
      have r4 := hf.free (j := k * 6 + 4)
      have r5 := hf.free (j := k * 6 + 5)
      generalize ss[k]'(by simpa using h1') = x1 at e1 hst
      generalize tt[k]'(by simpa using h2') = x2 at e2
      generalize cc[k]'(by simpa using h3') = x3 at e3
      generalize zs[k]'(by simpa using h4') = x4 at e4
      generalize ps[k]'(by simpa using h5') = x5 at e5
      generalize qs[k]'(by simpa using h6') = x6 at e6
      have HS := hst x2 x3 x4 x5 x6
      clear hst hf
      have hk0 : (0 : Int) ≤ (k : Int) := by omega
      have hk1 : (k : Int) < (n : Int) := by omega
      have m1 : ∀ (W : World) (a : Nat) (v : Value), (W.setCell ⟨w.heap.size, a, none⟩ v).cell? ⟨b1, f1 + k, none⟩ = W.cell? ⟨b1, f1 + k, none⟩ := fun W a v => far1 W w.heap.size a v b1 (f1 + k) (by omega)
      have m2 : ∀ (W : World) (a : Nat) (v : Value), (W.setCell ⟨w.heap.size, a, none⟩ v).cell? ⟨b2, f2 + k, none⟩ = W.cell? ⟨b2, f2 + k, none⟩ := fun W a v => far1 W w.heap.size a v b2 (f2 + k) (by omega)
      have m3 : ∀ (W : World) (a : Nat) (v : Value), (W.setCell ⟨w.heap.size, a, none⟩ v).cell? ⟨b3, f3 + k, none⟩ = W.cell? ⟨b3, f3 + k, none⟩ := fun W a v => far1 W w.heap.size a v b3 (f3 + k) (by omega)
      have m4 : ∀ (W : World) (a : Nat) (v : Value), (W.setCell ⟨w.heap.size, a, none⟩ v).cell? ⟨b4, f4 + k, none⟩ = W.cell? ⟨b4, f4 + k, none⟩ := fun W a v => far1 W w.heap.size a v b4 (f4 + k) (by omega)
      have m5 : ∀ (W : World) (a : Nat) (v : Value), (W.setCell ⟨w.heap.size, a, none⟩ v).cell? ⟨b5, f5 + k, none⟩ = W.cell? ⟨b5, f5 + k, none⟩ := fun W a v => far1 W w.heap.size a v b5 (f5 + k) (by omega)
      have m6 : ∀ (W : World) (a : Nat) (v : Value), (W.setCell ⟨w.heap.size, a, none⟩ v).cell? ⟨b6, f6 + k, none⟩ = W.cell? ⟨b6, f6 + k, none⟩ := fun W a v => far1 W w.heap.size a v b6 (f6 + k) (by omega)
      go_wp2
      go_region_held3 (fun w' => w'.cell? ⟨b1, f1 + k, none⟩ = some (.string x1) ∧ w'.cell? ⟨b2, f2 + k, none⟩ = some (.string x2) ∧ w'.cell? ⟨b3, f3 + k, none⟩ = some (.string x3) ∧ w'.cell? ⟨b4, f4 + k, none⟩ = some (.int .i64 x4) ∧ w'.cell? ⟨b5, f5 + k, none⟩ = some (.bool x5) ∧ w'.cell? ⟨b6, f6 + k, none⟩ = some (.bool x6)) (go_keep) (fail)
      go_wp2
      go_roundw
      case rel => exact ⟨k + 1, by omega, by go_num, HS.drew⟩
      case measure => simp [intOf]; omega
    · obtain rfl : k = n := by omega
      have hl : (ss.map Value.string).length = k := H1.out.1
      have hm := hf.done (by simpa using hl) (fun _ => hf.inside)
      have hbl := hf.below
      have HR := from_any by_ (some ⟨w.heap.size, 0, none⟩) k k ss wr hn hm
      clear hl hm hf
      go_wp2_with fail
      refine HR.mono ?_
      rintro e w1 ⟨r, ao, cap', rfl, hrow⟩
      have hb1 : Below w.heap.size w w1 := hbl.trans (hrow.2.1.mono hbl.size)
      clear HR
      by_cases hr : r = 0
      · obtain ⟨rfl, rfl⟩ := hrow.2.2 hr
        subst hr
        have HZ : Hid (Pl.dd ss = []) := List.eq_nil_of_length_eq_zero hrow.len
        clear hrow
        go_wp2_with fail
        refine (zzTexts_nil _).mono ?_
        rintro e w' ⟨rfl, hw⟩
        cases hw
        go_wp2
        go_ret
        exact ⟨0, none, rfl, by rw [HZ.out]; exact SlA.nil _, hb1, fun _ => rfl⟩
      · have hrl := hrow.len
        have hdl := Pl.dd_length ss
        have hsl : ss.length = k := by have := H1.out.1; simpa using this
        have hr4 : r ≤ 4096 := by omega
        have HC := zzTexts_any ao r cap' (Pl.dd ss) w1 hr4 hrow.sl
        clear hrl hdl hsl hrow
        go_wp2_with fail
        refine HC.mono ?_
        rintro e w2 ⟨ao2, rfl, hs2, hb2⟩
        clear HC
        go_wp2
        go_ret
        exact ⟨r, ao2, rfl, hs2, hb1.trans (hb2.mono hb1.size), fun e => absurd e hr⟩

set_option maxRecDepth 100000 in
set_option maxHeartbeats 400000 in
theorem rule_none (by_ : ByteArray) (o2 o3 o4 o5 o6 : Option Addr) (c2 c3 c4 c5 c6 : Nat) (w : World) :
    Calls Try.prog 11 #[.string by_, .slice none 0 0, .slice o2 0 c2, .slice o3 0 c3, .slice o4 0 c4, .slice o5 0 c5, .slice o6 0 c6] w fun e w' => e = .returned (.slice none 0 0) ∧ Below w.heap.size w w' := by
  have HR := from_any by_ none 0 0 [] w (by omega) ⟨rfl, fun h => absurd h (by omega)⟩
  go_enter Try.func11, Try.ntmps11
  go_wp2
  refine wp_loop_rounds 1 ?_
  rw [rounds_succ]
  go_wp2_with fail
  refine HR.mono ?_
  rintro e w1 ⟨r, ao, cap', rfl, hrow⟩
  clear HR
  have hr : r = 0 := hrow.len.symm
  obtain ⟨rfl, rfl⟩ := hrow.2.2 hr
  subst hr
  have hb1 := hrow.2.1
  clear hrow
  go_wp2_with fail
  refine (zzTexts_nil _).mono ?_
  rintro e w' ⟨rfl, hw⟩
  cases hw
  go_wp2
  go_ret
  exact ⟨rfl, hb1⟩
/-- What 'ZZRuleFrom' hands back. -/
def Ruled (w : World) (L : List ByteArray) (e : Ending) (w' : World) : Prop :=
  ∃ ao : Option Addr, e = .returned (.slice ao L.length L.length) ∧ SlA w' ao L.length L.length (L.map Value.string) ∧ Below w.heap.size w w' ∧ (L.length = 0 ↔ ao = none)
theorem rule_any (by_ : ByteArray) (o1 o2 o3 o4 o5 o6 : Option Addr) (n c1 c2 c3 c4 c5 c6 : Nat) (ss tt cc : List ByteArray) (zs : List Int) (ps qs : List Bool) (w : World) (hn : n ≤ 4096)
    (H1 : SlA w o1 n c1 (ss.map Value.string)) (H2 : SlA w o2 n c2 (tt.map Value.string)) (H3 : SlA w o3 n c3 (cc.map Value.string))
    (H4 : SlA w o4 n c4 (zs.map (Value.int .i64))) (H5 : SlA w o5 n c5 (ps.map Value.bool)) (H6 : SlA w o6 n c6 (qs.map Value.bool)) :
    Calls Try.prog 11 #[.string by_, .slice o1 n c1, .slice o2 n c2, .slice o3 n c3, .slice o4 n c4, .slice o5 n c5, .slice o6 n c6] w fun e w' => Ruled w (Pl.dd ss) e w' := by
  cases o1 with
  | none =>
    obtain ⟨rfl, rfl⟩ := H1.2.2.1 rfl
    have hz : ss = [] := by have := H1.1; simpa using this
    subst hz
    refine (rule_none by_ o2 o3 o4 o5 o6 c2 c3 c4 c5 c6 w).mono ?_
    rintro e w' ⟨rfl, hb⟩
    exact ⟨none, rfl, SlA.nil _, hb, by simp [Pl.dd]⟩
  | some a1 =>
    refine (rule_some by_ a1 o2 o3 o4 o5 o6 n c1 c2 c3 c4 c5 c6 ss tt cc zs ps qs w hn H1 H2 H3 H4 H5 H6).mono ?_
    rintro e w' ⟨r, ao, rfl, hs, hb, h0⟩
    have hr : (Pl.dd ss).length = r := by have := hs.1; simpa using this
    subst hr
    exact ⟨ao, rfl, hs, hb, h0, fun e => (hs.2.2.1 e).1⟩
end Go.Proofs.Qxb6601734a
