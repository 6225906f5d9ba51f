/-
  Contract of geFit: what is so where it answers true. No condition.
-/
import Derived.Test.YtkcffmnccjemiaaGDc
namespace Go.Proofs.Ytkcffmnccjemiaa.GD
open Go.RowKit Go.Proofs.YtkcffmnccjemiaaW.PrintWords Go.Proofs.YtkcffmnccjemiaaW.PrintLast Go.Proofs.YtkcffmnccjemiaaW.PrintMore
set_option linter.unusedVariables false
set_option linter.unusedSimpArgs false
set_option maxRecDepth 100000
set_option maxHeartbeats 1000000

theorem at_geo {w : World} {A : Option Addr} {n : Nat} {xs : List GeoD} (h : kGeo.C w A n xs) (i : Nat) (h1 : i < n) :
    ∃ ad k s l2 l3 l4 A5 n5 c5 A2 c2 A3 c3 A4 c4, A = some ad ∧ xs[i]? = some (k, s, l2, l3, l4, A5, n5, c5) ∧ Lays w A2 A3 A4 l2 l3 l4 ∧
      w.cell? (ad.add (i * 6)) = some (.int .i64 k) ∧ w.cell? ⟨(ad.add (i * 6)).block, (ad.add (i * 6)).off + 1, none⟩ = some (.int .u32 s) ∧
      w.cell? ⟨(ad.add (i * 6)).block, (ad.add (i * 6)).off + 2, none⟩ = some (.slice A2 l2.length c2) ∧ w.cell? ⟨(ad.add (i * 6)).block, (ad.add (i * 6)).off + 3, none⟩ = some (.slice A3 l3.length c3) ∧
      w.cell? ⟨(ad.add (i * 6)).block, (ad.add (i * 6)).off + 4, none⟩ = some (.slice A4 l4.length c4) ∧ w.cell? ⟨(ad.add (i * 6)).block, (ad.add (i * 6)).off + 5, none⟩ = some (.slice A5 n5 c5) := by
  have hlen : i < xs.length := by have := h.1; omega
  obtain ⟨ad, c, e, hl, hK, hc0⟩ := Kd.C_get h ((0, 0, [], [], [], none, 0, 0) : GeoD) (i : Int) (by omega) (by omega)
  have hc : ∀ j u, c[j]? = some u → w.cell? (ad.add (i * 6 + j)) = some u := hc0
  rw [Int.toNat_natCast, List.getD_eq_getElem?_getD, List.getElem?_eq_getElem hlen, Option.getD_some] at hK
  have hx := List.getElem?_eq_getElem hlen
  generalize xs[i] = y at *
  obtain ⟨k, s, l2, l3, l4, A5, n5, c5⟩ := y
  obtain ⟨_, _, rfl, rfl, _, _, rfl, rfl, _, _, rfl, ⟨A2, c2, rfl, h2, k2⟩, _, _, rfl, ⟨A3, c3, rfl, h3, k3⟩, _, _, rfl, ⟨A4, c4, rfl, h4, k4⟩, rfl⟩ := hK
  refine ⟨ad, k, s, l2, l3, l4, A5, n5, c5, A2, c2, A3, c3, A4, c4, e, hx, ⟨k2, k3, k4⟩, hc 0 _ rfl, ?_, ?_, ?_, ?_, ?_⟩
  · rw [← add_field _ _ 1 (by omega)]; exact hc 1 _ rfl
  · rw [← add_field _ _ 2 (by omega)]; exact hc 2 _ rfl
  · rw [← add_field _ _ 3 (by omega)]; exact hc 3 _ rfl
  · rw [← add_field _ _ 4 (by omega)]; exact hc 4 _ rfl
  · rw [← add_field _ _ 5 (by omega)]; exact hc 5 _ rfl
/-- What geFit's true says. -/
def Fit (k : Int) (l2 : List (Nat × Nat)) (l3 : List (List (Nat × Nat))) (l4 : List (List (List (Nat × Nat)))) (lg : List GeoD) : Prop :=
  (k ≠ 7 ∧ Flat k l2 l3 l4) ∨ (k = 7 ∧ 1 ≤ lg.length ∧ lg.length ≤ 5 ∧ ∀ y ∈ lg, Flat y.1 y.2.2.1 y.2.2.2.1 y.2.2.2.2.1)
theorem fit1_ok (k s : Int) (A2 A3 A4 A5 : Option Addr) (c2 c3 c4 c5 : Nat) (l2 : List (Nat × Nat)) (l3 : List (List (Nat × Nat))) (l4 : List (List (List (Nat × Nat)))) (lg : List GeoD) (hk : k ≠ 7) (w : World) (hL : Lays w A2 A3 A4 l2 l3 l4) :
    Calls Try.prog 5 #[gv k s A2 A3 A4 A5 l2.length c2 l3.length c3 l4.length c4 lg.length c5] w fun e w' => Tells e (Fit k l2 l3 l4 lg) ∧ Below w.heap.size w w' := by
  have hB := below_alloc (Below.refl w.heap.size w) (go k s A2 A3 A4 A5 l2.length c2 l3.length c3 l4.length c4 lg.length c5)
  have HB := Aside0.mk hB
  have H := Aside0.mk (flat_ok k s A2 A3 A4 A5 c2 c3 c4 lg.length c5 l2 l3 l4 _ (hL.below hB))
  have F := Aside0.mk (fun (h : Flat k l2 l3 l4) => (show Fit k l2 l3 l4 lg from .inl ⟨hk, h⟩))
  generalize Flat k l2 l3 l4 = FF at *
  generalize Fit k l2 l3 l4 lg = FG at *
  clear hL hB
  go_enter Try.func5, Try.ntmps5
  go_wp2_with fail
  refine H.out.mono ?_
  rintro e w2 ⟨⟨r, rfl, hr⟩, hb⟩
  have HB2 := Aside0.mk (below_step HB.out hb)
  have HR := Aside0.mk hr
  clear hb hr H HB
  go_wp2_with fail
  go_ret
  exact ⟨⟨_, rfl, fun h => F.out (HR.out h)⟩, HB2.out⟩
theorem fit2_ok (s : Int) (A2 A3 A4 A5 : Option Addr) (c2 c3 c4 c5 : Nat) (l2 : List (Nat × Nat)) (l3 : List (List (Nat × Nat))) (l4 : List (List (List (Nat × Nat)))) (lg : List GeoD) (w : World) (hL : Lays w A2 A3 A4 l2 l3 l4) (hG : kGeo.C w A5 lg.length lg) :
    Calls Try.prog 5 #[gv 7 s A2 A3 A4 A5 l2.length c2 l3.length c3 l4.length c4 lg.length c5] w fun e w' => Tells e (Fit 7 l2 l3 l4 lg) ∧ Below w.heap.size w w' := by
  have hmax : lg.length ≤ 9223372036854775807 := hG.2.1
  have HC := Aside0.mk (fun W (h : Below w.heap.size w W) => Kd.C_below hG h)
  have HB := Aside0.mk (below_alloc (Below.refl w.heap.size w) (go 7 s A2 A3 A4 A5 l2.length c2 l3.length c3 l4.length c4 lg.length c5))
  have HN := Aside0.mk (heap_alloc_new w (go 7 s A2 A3 A4 A5 l2.length c2 l3.length c3 l4.length c4 lg.length c5))
  have F := Aside0.mk (fun (h1 : 1 ≤ lg.length) (h5 : lg.length ≤ 5) (h : ∀ y ∈ lg, Flat y.1 y.2.2.1 y.2.2.2.1 y.2.2.2.2.1) => (show Fit 7 l2 l3 l4 lg from .inr ⟨rfl, h1, h5, h⟩))
  generalize Fit 7 l2 l3 l4 lg = FG at *
  obtain ⟨z, hz⟩ : ∃ z, wrap64 ((l2.length : Int) + (l3.length : Int)) = z := ⟨_, rfl⟩
  obtain ⟨z2, hz2⟩ : ∃ z2, wrap64 (z + (l4.length : Int)) = z2 := ⟨_, rfl⟩
  generalize l2.length = m2 at *
  generalize l3.length = m3 at *
  generalize l4.length = m4 at *
  clear hL hG
  go_enter Try.func5, Try.ntmps5
  go_wp2_with fail
  go_loopw [13] (fun t13 wr => ∃ j : Nat, t13 = .int .i64 (j : Int) ∧ j ≤ lg.length ∧ Aside0 (∀ y ∈ lg.take j, Flat y.1 y.2.2.1 y.2.2.2.1 y.2.2.2.2.1) ∧ Aside0 (Below w.heap.size w wr) ∧ wr.heap[w.heap.size]? = some (go 7 s A2 A3 A4 A5 m2 c2 m3 c3 m4 c4 lg.length c5)) (fun t13 _ => lg.length - (intOf t13).toNat)
  case atStart => exact ⟨0, rfl, Nat.zero_le _, ⟨by simp⟩, HB, HN.out⟩
  case round =>
    obtain ⟨j, rfl, hj, HK, HBr, hN⟩ := hrel
    have HN2 := Aside0.mk hN
    have ltn := blk_lt hN
    obtain ⟨x0, x1, x2, x3, x4, x5⟩ := cells6 hN
    clear hN
    rcases Nat.lt_or_ge j lg.length with hlt | hge
    · obtain ⟨ad, k, s', k2, k3, k4, B5, n5, d5, B2, d2, B3, d3, B4, d4, rfl, hx, hLy, g0, g1, g2, g3, g4, g5⟩ := at_geo (HC.out wr HBr.out) j hlt
      have hA := below_alloc (Below.refl wr.heap.size wr) (go k s' B2 B3 B4 B5 k2.length d2 k3.length d3 k4.length d4 n5 d5)
      have HA := Aside0.mk hA
      have HAN := Aside0.mk (heap_alloc_new wr (go k s' B2 B3 B4 B5 k2.length d2 k3.length d3 k4.length d4 n5 d5))
      have HG := Aside0.mk (flat_ok k s' B2 B3 B4 B5 d2 d3 d4 n5 d5 k2 k3 k4 _ (hLy.below hA))
      have HT : Aside0 (Flat k k2 k3 k4 → ∀ y ∈ lg.take (j + 1), Flat y.1 y.2.2.1 y.2.2.2.1 y.2.2.2.2.1) := ⟨fun h12 y hy => by
        rw [List.take_succ_eq_append_getElem hlt] at hy
        rw [List.getElem?_eq_getElem hlt] at hx
        rcases List.mem_append.1 hy with hy | hy
        · exact HK.out y hy
        · rw [List.mem_singleton.1 hy, Option.some.inj hx]; exact h12⟩
      clear hx hLy hA
      generalize Flat k k2 k3 k4 = FF at *
      generalize k2.length = e2 at *
      generalize k3.length = e3 at *
      generalize k4.length = e4 at *
      go_wp2_with fail
      refine HG.out.mono ?_
      rintro e w2 ⟨⟨r, rfl, hr⟩, hb⟩
      have HB2 := Aside0.mk (below_step (below_step HBr.out HA.out) hb)
      have hN2 := (hb.block _ (Nat.lt_of_lt_of_le ltn HA.out.size)).trans ((HA.out.block _ ltn).trans HN2.out)
      have hM2 := (hb.block _ (blk_lt HAN.out)).trans HAN.out
      have HR := Aside0.mk hr
      clear hb hr HG HBr HA HAN HN2 x0 x1 x2 x3 x4 x5 g0 g1 g2 g3 g4 g5
      have HNN := Aside0.mk hN2
      obtain ⟨x0, x1, x2, x3, x4, x5⟩ := cells6 hN2
      obtain ⟨y0, y1, y2, y3, y4, y5⟩ := cells6 hM2
      clear hN2 hM2
      cases r
      · go_wp2_with fail
        go_ret
        exact ⟨⟨_, rfl, fun h => by cases h⟩, HB2.out⟩
      · have HT2 := Aside0.mk (HT.out (HR.out rfl))
        by_cases hs : s' = s
        · subst hs
          go_wp2_with fail
          go_roundw
          case rel => exact ⟨j + 1, by go_num, by omega, HT2, HB2, HNN.out⟩
          case measure => simp [intOf]; omega
        · go_wp2_with fail
          go_ret
          exact ⟨⟨_, rfl, fun h => by cases h⟩, HB2.out⟩
    · obtain rfl : j = lg.length := by omega
      rw [List.take_length] at HK
      by_cases h0 : z2 = 0
      case neg =>
        go_wp2
        go_ret
        exact ⟨⟨_, rfl, fun h => by cases h⟩, HBr.out⟩
      by_cases h1 : 1 ≤ lg.length
      case neg =>
        go_wp2
        go_ret
        exact ⟨⟨_, rfl, fun h => by cases h⟩, HBr.out⟩
      go_wp2
      go_ret
      exact ⟨⟨_, rfl, fun h => F.out h1 (by have := of_decide_eq_true h; omega) HK.out⟩, HBr.out⟩
end Go.Proofs.Ytkcffmnccjemiaa.GD
