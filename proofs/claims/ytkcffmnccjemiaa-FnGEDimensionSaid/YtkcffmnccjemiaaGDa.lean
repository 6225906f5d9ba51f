/-
  Contracts of the law's size checks. No condition.
-/
import Derived.Test.YtkcffmnccjemiaaGDk
namespace Go.Proofs.Ytkcffmnccjemiaa.GD
open Go.RowKit Go.Proofs.YtkcffmnccjemiaaW.PrintWords Go.Proofs.YtkcffmnccjemiaaW.PrintLast Go.Proofs.YtkcffmnccjemiaaW.PrintMore
set_option linter.unusedVariables false
set_option linter.unusedSimpArgs false
set_option maxRecDepth 100000
set_option maxHeartbeats 400000

theorem at_row {α : Type} (d : Kd α) (e : Nat) {w : World} {A : Option Addr} {n : Nat} {xs : List (List α)} (h : (Kd.slice e d).C w A n xs) (i : Nat) (h1 : i < n) : ∃ ad x A' c', A = some ad ∧ xs[i]? = some x ∧ w.cell? (ad.add i) = some (.slice A' x.length c') ∧ x.length ≤ c' ∧ d.C w A' x.length x := by
  have hlen : i < xs.length := by have := h.1; omega
  obtain ⟨ad, c, e, hl, hK, hc0⟩ := Kd.C_get h ([] : List α) (i : Int) (by omega) (by omega)
  rw [Int.toNat_natCast, List.getD_eq_getElem?_getD, List.getElem?_eq_getElem hlen, Option.getD_some] at hK
  obtain ⟨A', c', rfl, hle, hC⟩ := hK
  have hc := hc0 0 _ rfl
  rw [Int.toNat_natCast] at hc
  refine ⟨ad, xs[i], A', c', e, List.getElem?_eq_getElem hlen, ?_, hle, hC⟩
  rw [show ad.add i = ad.add (i * (Kd.slice _ d).sz + 0) by show ad.add i = ad.add (i * 1 + 0); rw [Nat.mul_one, Nat.add_zero]]
  exact hc
/-- Some truth value. -/
def BoolOut (e : Ending) : Prop := ∃ r, e = .returned (.bool r)
theorem fits3_ok (A : Option Addr) (c : Nat) (l : List (List (Nat × Nat))) (w : World) (hC : kPts.C w A l.length l) :
    Calls Try.prog 8 #[.slice A l.length c] w fun e w' => BoolOut e ∧ Below w.heap.size w w' := by
  have hmax : l.length ≤ 9223372036854775807 := hC.2.1
  have HC := Aside0.mk (fun W (h : Below w.heap.size w W) => Kd.C_below hC h)
  clear hC
  by_cases hbig : (l.length : Int) ≤ 2147483647
  case neg =>
    go_enter Try.func8, Try.ntmps8
    go_wp2
    go_ret
    exact ⟨⟨_, rfl⟩, Below.refl _ _⟩
  go_enter Try.func8, Try.ntmps8
  go_wp2
  go_loopw [10] (fun t10 wr => ∃ k : Nat, t10 = .int .i64 (k : Int) ∧ k ≤ l.length ∧ Aside0 (Below w.heap.size w wr)) (fun t10 _ => l.length - (intOf t10).toNat)
  case atStart => exact ⟨0, rfl, Nat.zero_le _, ⟨Below.refl _ _⟩⟩
  case round =>
    obtain ⟨k, rfl, hk, HB⟩ := hrel
    rcases Nat.lt_or_ge k l.length with hlt | hge
    · obtain ⟨ad, x, A', c', rfl, hx, hcell, hle, hC⟩ := at_row kQ 65 (HC.out wr HB.out) k hlt
      clear hC hx hle
      generalize x.length = m at *
      by_cases hm : (m : Int) ≤ 2147483647
      · go_wp2
        go_roundw
        case rel => exact ⟨k + 1, by go_num, by omega, HB⟩
        case measure => simp [intOf]; omega
      · go_wp2
        go_ret
        exact ⟨⟨_, rfl⟩, HB.out⟩
    · obtain rfl : k = l.length := by omega
      go_wp2
      go_ret
      exact ⟨⟨_, rfl⟩, HB.out⟩
theorem fits4_ok (A : Option Addr) (c : Nat) (l : List (List (List (Nat × Nat)))) (w : World) (hC : kLns.C w A l.length l) :
    Calls Try.prog 9 #[.slice A l.length c] w fun e w' => BoolOut e ∧ Below w.heap.size w w' := by
  have hmax : l.length ≤ 9223372036854775807 := hC.2.1
  have HC := Aside0.mk (fun W (h : Below w.heap.size w W) => Kd.C_below hC h)
  clear hC
  by_cases hbig : (l.length : Int) ≤ 2147483647
  case neg =>
    go_enter Try.func9, Try.ntmps9
    go_wp2
    go_ret
    exact ⟨⟨_, rfl⟩, Below.refl _ _⟩
  go_enter Try.func9, Try.ntmps9
  go_wp2
  go_loopw [10] (fun t10 wr => ∃ k : Nat, t10 = .int .i64 (k : Int) ∧ k ≤ l.length ∧ Aside0 (Below w.heap.size w wr)) (fun t10 _ => l.length - (intOf t10).toNat)
  case atStart => exact ⟨0, rfl, Nat.zero_le _, ⟨Below.refl _ _⟩⟩
  case round =>
    obtain ⟨k, rfl, hk, HB⟩ := hrel
    rcases Nat.lt_or_ge k l.length with hlt | hge
    · obtain ⟨ad, x, A', c', rfl, hx, hcell, hle, hC⟩ := at_row kPts 23 (HC.out wr HB.out) k hlt
      have H := Aside0.mk (fits3_ok A' c' x wr hC)
      clear hC hx hle
      generalize x.length = m at *
      go_wp2_with fail
      refine H.out.mono ?_
      rintro e w2 ⟨⟨r, rfl⟩, hb⟩
      have HB2 := Aside0.mk (below_step HB.out hb)
      clear hb HB H
      cases r
      · go_wp2_with fail
        go_ret
        exact ⟨⟨_, rfl⟩, HB2.out⟩
      · go_wp2_with fail
        go_roundw
        case rel => exact ⟨k + 1, by go_num, by omega, HB2⟩
        case measure => simp [intOf]; omega
    · obtain rfl : k = l.length := by omega
      go_wp2
      go_ret
      exact ⟨⟨_, rfl⟩, HB.out⟩
/-- A geometry by value. -/
abbrev gv (k s : Int) (A2 A3 A4 A5 : Option Addr) (n2 c2 n3 c3 n4 c4 n5 c5 : Nat) : Value := .agg #[.int .i64 k, .int .u32 s, .slice A2 n2 c2, .slice A3 n3 c3, .slice A4 n4 c4, .slice A5 n5 c5]
abbrev go (k s : Int) (A2 A3 A4 A5 : Option Addr) (n2 c2 n3 c3 n4 c4 n5 c5 : Nat) : Obj := .cells #[.int .i64 k, .int .u32 s, .slice A2 n2 c2, .slice A3 n3 c3, .slice A4 n4 c4, .slice A5 n5 c5] 28 (0, 0)
/-- Its points, lines, polygons, as they lie. -/
def Lays (W : World) (A2 A3 A4 : Option Addr) (l2 : List (Nat × Nat)) (l3 : List (List (Nat × Nat))) (l4 : List (List (List (Nat × Nat)))) : Prop := kQ.C W A2 l2.length l2 ∧ kPts.C W A3 l3.length l3 ∧ kLns.C W A4 l4.length l4
theorem Lays.below {W W' : World} {A2 A3 A4 : Option Addr} {l2 : List (Nat × Nat)} {l3 : List (List (Nat × Nat))} {l4 : List (List (List (Nat × Nat)))} (h : Lays W A2 A3 A4 l2 l3 l4) (hb : Below W.heap.size W W') : Lays W' A2 A3 A4 l2 l3 l4 := ⟨Kd.C_below h.1 hb, Kd.C_below h.2.1 hb, Kd.C_below h.2.2 hb⟩
theorem cells6 {W : World} {g t : Nat} {a b c d e f : Value} (h : W.heap[g]? = some (.cells #[a, b, c, d, e, f] t (0, 0))) : W.cell? ⟨g, 0, none⟩ = some a ∧ W.cell? ⟨g, 1, none⟩ = some b ∧ W.cell? ⟨g, 2, none⟩ = some c ∧ W.cell? ⟨g, 3, none⟩ = some d ∧ W.cell? ⟨g, 4, none⟩ = some e ∧ W.cell? ⟨g, 5, none⟩ = some f := by
  refine ⟨?_, ?_, ?_, ?_, ?_, ?_⟩ <;> (rw [Lib.cell_of_heap h]; rfl)
theorem fits2_ok (k s : Int) (A2 A3 A4 A5 : Option Addr) (c2 c3 c4 n5 c5 : Nat) (l2 : List (Nat × Nat)) (l3 : List (List (Nat × Nat))) (l4 : List (List (List (Nat × Nat)))) (w : World) (hL : Lays w A2 A3 A4 l2 l3 l4) :
    Calls Try.prog 4 #[gv k s A2 A3 A4 A5 l2.length c2 l3.length c3 l4.length c4 n5 c5] w fun e w' => BoolOut e ∧ Below w.heap.size w w' := by
  have hB := below_alloc (Below.refl w.heap.size w) (go k s A2 A3 A4 A5 l2.length c2 l3.length c3 l4.length c4 n5 c5)
  have H3 := Aside0.mk (fits3_ok A3 c3 l3 _ (hL.below hB).2.1)
  have H4 := Aside0.mk (fun W (h : Below w.heap.size w W) => fits4_ok A4 c4 l4 W (hL.below h).2.2)
  have HN := Aside0.mk (heap_alloc_new w (go k s A2 A3 A4 A5 l2.length c2 l3.length c3 l4.length c4 n5 c5))
  have HB := Aside0.mk hB
  clear hL hB
  generalize l2.length = m2 at *
  generalize l3.length = m3 at *
  generalize l4.length = m4 at *
  by_cases h2 : (m2 : Int) ≤ 2147483647
  case neg =>
    go_enter Try.func4, Try.ntmps4
    go_wp2
    go_ret
    exact ⟨⟨_, rfl⟩, HB.out⟩
  go_enter Try.func4, Try.ntmps4
  go_wp2_with fail
  refine H3.out.mono ?_
  rintro e w2 ⟨⟨r, rfl⟩, hb⟩
  have HB2 := Aside0.mk (below_step HB.out hb)
  have hN := (hb.block _ (blk_lt HN.out)).trans HN.out
  obtain ⟨x0, x1, x2, x3, x4, x5⟩ := cells6 hN
  have H5 := Aside0.mk (H4.out _ HB2.out)
  have HN2 := Aside0.mk hN
  clear hb HB HN H3 H4 hN
  cases r
  · go_wp2_with fail
    go_ret
    exact ⟨⟨_, rfl⟩, HB2.out⟩
  go_wp2_with fail
  refine H5.out.mono ?_
  rintro e w3 ⟨⟨r, rfl⟩, hb⟩
  have HB3 := Aside0.mk (below_step HB2.out hb)
  have hN := (hb.block _ (blk_lt HN2.out)).trans HN2.out
  clear x0 x1 x2 x3 x4 x5
  obtain ⟨x0, x1, x2, x3, x4, x5⟩ := cells6 hN
  clear hb HB2 HN2 H5 hN
  cases r
  · go_wp2_with fail
    go_ret
    exact ⟨⟨_, rfl⟩, HB3.out⟩
  by_cases h5 : (n5 : Int) ≤ 2147483647
  · go_wp2
    go_ret
    exact ⟨⟨_, rfl⟩, HB3.out⟩
  · go_wp2
    go_ret
    exact ⟨⟨_, rfl⟩, HB3.out⟩
end Go.Proofs.Ytkcffmnccjemiaa.GD
