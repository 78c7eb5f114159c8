/-
  '(rule).from'.
-/
import Derived.Test.Qxb6601734aReads
namespace Go.Proofs.Qxb6601734a
open Go.ChangeShapes Go.WideShapes Go.ChangeAt Go.RowKit

theorem Try.info35 : (Try.prog.info? 35).map (fun i => (i.zero, i.size, i.bytes)) = some (some (.string ⟨#[]⟩), 1, 16) := by kernel_rfl

/-- The moves in memory: of each its from-status, and whatever else. -/
def Mv (w : World) (mo : Option Addr) (n : Nat) (ss : List ByteArray) : Prop :=
  ss.length = n ∧ (0 < n → ∃ g, mo = some ⟨g, 0, none⟩ ∧ g < w.heap.size ∧ ∀ j (h : j < ss.length), ∃ (t c : ByteArray) (z : Int) (p q : Bool),
    w.cell? ⟨g, j * 6, none⟩ = some (.string ss[j]) ∧ w.cell? ⟨g, j * 6 + 1, none⟩ = some (.string t) ∧ w.cell? ⟨g, j * 6 + 2, none⟩ = some (.string c) ∧
    w.cell? ⟨g, j * 6 + 3, none⟩ = some (.int .i64 z) ∧ w.cell? ⟨g, j * 6 + 4, none⟩ = some (.bool p) ∧ w.cell? ⟨g, j * 6 + 5, none⟩ = some (.bool q))
theorem Mv.below {w w' : World} {mo : Option Addr} {n : Nat} {ss : List ByteArray} (h : Mv w mo n ss) (hb : Below w.heap.size w w') : Mv w' mo n ss := by
  obtain ⟨h1, h2⟩ := h
  refine ⟨h1, fun hn => ?_⟩
  obtain ⟨g, e, hg, hc⟩ := h2 hn
  refine ⟨g, e, Nat.lt_of_lt_of_le hg hb.size, fun j hj => ?_⟩
  obtain ⟨t, c, z, p, q, c0, c1, c2, c3, c4, c5⟩ := hc j hj
  exact ⟨t, c, z, p, q, (hb.cell (p := ⟨g, j * 6, none⟩) hg).trans c0, (hb.cell (p := ⟨g, j * 6 + 1, none⟩) hg).trans c1, (hb.cell (p := ⟨g, j * 6 + 2, none⟩) hg).trans c2,
    (hb.cell (p := ⟨g, j * 6 + 3, none⟩) hg).trans c3, (hb.cell (p := ⟨g, j * 6 + 4, none⟩) hg).trans c4, (hb.cell (p := ⟨g, j * 6 + 5, none⟩) hg).trans c5⟩

/-- The from-list as it grows. -/
def Row (w : World) (r : Nat) (ao : Option Addr) (cap : Nat) (L : List ByteArray) (wr : World) : Prop :=
  wr.ownsRow w.heap.size 35 1 (.slice ao r cap) r (L.map Value.string) ∧ Below w.heap.size w wr ∧ (r = 0 → ao = none ∧ cap = 0)
theorem Row.start (w : World) (o : Obj) : Row w 0 none 0 [] (w.alloc o) :=
  ⟨World.ownsRow_nil _ _ _ _, (Below.refl _ _).alloc (Nat.le_refl _) o, fun _ => ⟨rfl, rfl⟩⟩
theorem Row.sl {w : World} {r : Nat} {ao : Option Addr} {cap : Nat} {L : List ByteArray} {wr : World} (h : Row w r ao cap L wr) : SlA wr ao r cap (L.map Value.string) := by
  obtain ⟨ho, hb, h0⟩ := h
  rcases ho.2 with ⟨e, hr⟩ | ⟨g, cap', cur, e, _⟩
  · simp only [Value.slice.injEq] at e
    obtain ⟨rfl, rfl, rfl⟩ := e
    have hz : L.map Value.string = [] := List.eq_nil_of_length_eq_zero (by have := ho.1; simpa using this)
    rw [hz]
    exact SlA.nil _
  · simp only [Value.slice.injEq] at e
    obtain ⟨rfl, _, rfl⟩ := e
    exact SlA.own ho

theorem Row.len {w : World} {r : Nat} {ao : Option Addr} {cap : Nat} {L : List ByteArray} {wr : World} (h : Row w r ao cap L wr) : L.length = r := by
  have := h.1.1; simpa using this
theorem Row.alloc {w : World} {r : Nat} {ao : Option Addr} {cap : Nat} {L : List ByteArray} {wr : World} (h : Row w r ao cap L wr) (o : Obj) : Row w r ao cap L (wr.alloc o) :=
  ⟨h.1.alloc o, h.2.1.alloc h.2.1.size o, h.2.2⟩
/-- Behind 'from = append(from, s)'. -/
theorem Row.app {w : World} {r : Nat} {ao : Option Addr} {cap : Nat} {L : List ByteArray} {wr w1 : World} {v' : Value} {s : ByteArray} (h : Row w r ao cap L wr)
    (ho : w1.ownsRow w.heap.size 35 1 v' (r + 1) (L.map Value.string ++ [.string s])) (hg : wr.grownBy w1 (Value.slice ao r cap).ownBlock) :
    ∃ ao' cap', v' = .slice ao' (r + 1) cap' ∧ Row w (r + 1) ao' cap' (L ++ [s]) w1 := by
  have hb : Below w.heap.size w w1 := h.2.1.grown hg h.2.1.size (fun k hk => by
    rcases h.1.2 with ⟨e, _⟩ | ⟨g, cap', cur, e, hbg, _⟩
    · rw [e] at hk; cases hk
    · rw [e] at hk; cases hk; exact hbg)
  have ho' : w1.ownsRow w.heap.size 35 1 v' (r + 1) ((L ++ [s]).map Value.string) := by rw [List.map_append]; exact ho
  rcases ho.2 with ⟨_, e⟩ | ⟨g, cap', cur, rfl, _⟩
  · omega
  · exact ⟨_, cap', rfl, ho', hb, fun e => by omega⟩
theorem cell_one (w : World) (s : ByteArray) : ∀ (j : Nat) (u : Value), [Value.string s][j]? = some u → (w.alloc (.cells #[.string s] 35)).cell? ((⟨w.heap.size, 0, none⟩ : Addr).add j) = some u := by
  intro j u h
  match j, h with
  | 0, h => simp at h; subst h; simp [Addr.add]
theorem cell_two (w : World) (o : Obj) (s : ByteArray) : ∀ (j : Nat) (u : Value), [Value.string s][j]? = some u → ((w.alloc o).alloc (.cells #[.string s] 35)).cell? ((⟨w.heap.size + 1, 0, none⟩ : Addr).add j) = some u := by
  have h := cell_one (w.alloc o) s
  simpa using h
theorem one_cell (s : ByteArray) : ∀ u ∈ [Value.string s], u.oneCell' = true := by
  intro u hu; simp at hu; subst hu; rfl

set_option maxRecDepth 100000 in
set_option maxHeartbeats 1000000 in
theorem from_any (by_ : ByteArray) (mo : Option Addr) (n cap : Nat) (ss : List ByteArray) (w : World) (hn : n ≤ 4096) (H : Hid (Mv w mo n ss)) :
    Calls Try.prog 18 #[.agg #[.string by_, .slice mo n cap]] w fun e w' => ∃ (r : Nat) (ao : Option Addr) (cap' : Nat), e = .returned (.slice ao r cap') ∧ Row w r ao cap' (Pl.dd ss) w' := by
  obtain ⟨i0, hi, hz0, hz1, hz2⟩ := info_parts Try.info35
  go_enter Try.func18, Try.ntmps18
  go_wp2
  go_loopw [3, 9] (fun t i wr => ∃ (k r : Nat) (ao : Option Addr) (c : Nat), k ≤ n ∧ i = .int .i64 k ∧ t = .slice ao r c ∧ Row w r ao c (Pl.dd (ss.take k)) wr) (fun _ i _ => n - (intOf i).toNat)
  case atStart => exact ⟨0, 0, none, 0, Nat.zero_le _, rfl, rfl, Row.start _ _⟩
  case round =>
    obtain ⟨k, r, ao, c, hk, rfl, rfl, hrow⟩ := hrel
    by_cases hlt : k < n
    · obtain ⟨hl, hm⟩ := (H.out.below hrow.2.1)
      obtain ⟨g, rfl, hg, hcs⟩ := hm (by omega)
      obtain ⟨t, cc, z, p, q, c0, c1, c2, c3, c4, c5⟩ := hcs k (by omega)
      clear hcs hm
      have hrl := hrow.len
      have hdl := Pl.dd_length (ss.take k)
      have htl : (ss.take k).length ≤ k := List.length_take_le _ _
      have hr : r ≤ 4096 := by omega
      have HD : Hid (Pl.dd (ss.take (k + 1)) = Pl.step (Pl.dd (ss.take k)) ss[k]) := Pl.dd_snoc ss k (by omega)
      clear hrl hdl htl
      generalize ss[k] = s at c0 HD
      clear hl
      have hrow1 := hrow.alloc (.cells #[.string s, .string t, .string cc, .int .i64 z, .bool p, .bool q] 39)
      go_wp2_with fail
      refine (contains_any ao r c (Pl.dd (ss.take k)) s _ (by omega) hrow1.sl).mono ?_
      rintro e w' ⟨rfl, hw⟩
      cases hw
      cases hh : Pl.has (Pl.dd (ss.take k)) s with
      | true =>
        rw [Pl.step_hit hh] at HD
        clear hh
        go_wp2
        go_roundw
        case rel => exact ⟨k + 1, r, ao, c, by omega, by go_num, rfl, by rw [HD.out]; exact hrow1⟩
        case measure => simp [intOf]; omega
      | false =>
        rw [Pl.step_miss hh] at HD
        clear hh
        go_wp2_with (at_builtin; refine wpList_append_own _ rfl (.tmp 18) (.tmp 21) 41 rfl w.heap.size 35 i0 (.string ⟨#[]⟩) 1 16 Try.underlying41 hi hz0 hz1 hz2 rfl (by decide) _ r _ rfl (hrow1.1.alloc _) ⟨wr.heap.size + 1, 0, none⟩ 1 1 [.string s] rfl rfl ?c1 (one_cell s) ?c2 ?c3 ?c4 ?_)
        case c1 => exact cell_two wr _ s
        case c2 => unfold maxLen; omega
        case c3 => omega
        case c4 => exact ((hrow1.alloc _).2.1).size
        intro v' w1 hown1 hgrow1 _
        obtain ⟨ao', cap', hv', hrow2⟩ := (hrow1.alloc (.cells #[.string s] 35)).app hown1 hgrow1
        rw [hv']
        clear hown1 hgrow1 hv'
        go_wp2
        go_roundw
        case rel => exact ⟨k + 1, r + 1, ao', cap', by omega, by go_num, rfl, by rw [HD.out]; exact hrow2⟩
        case measure => simp [intOf]; omega
    · obtain rfl : k = n := by omega
      have hl : ss.length = k := H.out.1
      rw [List.take_of_length_le (by omega)] at hrow
      clear hl
      go_wp2
      go_ret
      exact ⟨r, ao, c, rfl, hrow⟩
end Go.Proofs.Qxb6601734a
