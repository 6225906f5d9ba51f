/-
  spec.GEDimension of a collection. Condition: geFit's.
-/
import Derived.Test.YtkcffmnccjemiaaGDq
namespace Go.Proofs.Ytkcffmnccjemiaa.GD
open Go.RowKit Go.Proofs.YtkcffmnccjemiaaW.PrintWords Go.Proofs.YtkcffmnccjemiaaW.PrintLast Go.Proofs.YtkcffmnccjemiaaW.PrintMore
attribute [local go_sem] max2_int max_two
set_option linter.unusedVariables false
set_option linter.unusedSimpArgs false
set_option maxRecDepth 100000
set_option maxHeartbeats 400000

def mostS (ks : List Int) : Int := ks.foldl (fun m k => max m (dimOf k)) (-1)
theorem mostS_next (ks : List Int) (j : Nat) (h : j < ks.length) : mostS (ks.take (j + 1)) = max (mostS (ks.take j)) (dimOf ks[j]) := by
  unfold mostS
  rw [List.take_succ_eq_append_getElem h, List.foldl_append]
  rfl
theorem dim_nn (k : Int) : 0 ≤ dimOf k := by unfold dimOf; split <;> (try split) <;> omega
theorem fold_same : ∀ (ks : List Int) (m : Int), ks.foldl (fun m k => max m (dimOf k)) m = most m ks
  | [], m => rfl
  | k :: t, m => by
    show t.foldl _ (max m (dimOf k)) = most (if m < dimOf k then dimOf k else m) t
    rw [fold_same t, show max m (dimOf k) = (if m < dimOf k then dimOf k else m) by split <;> omega]
theorem most_same (ks : List Int) (h : 1 ≤ ks.length) : mostS ks = most 0 ks := by
  match ks, h with
  | k :: t, _ =>
    have := dim_nn k
    show t.foldl _ (max (-1) (dimOf k)) = most (if 0 < dimOf k then dimOf k else 0) t
    rw [fold_same t, show max (-1) (dimOf k) = (if 0 < dimOf k then dimOf k else 0) by split <;> omega]
theorem specColl_ok (s : Int) (A2 A3 A4 A5 : Option Addr) (n2 c2 n3 c3 n4 c4 c5 : Nat) (lg : List GeoD) (hF : ∀ y ∈ lg, FlatD y) (w : World) (hG : kGeo.C w A5 lg.length lg) :
    Calls Try.prog 7 #[gv 7 s A2 A3 A4 A5 n2 c2 n3 c3 n4 c4 lg.length c5] w fun e w' => e = .returned (.int .i64 (mostS (lg.map (·.1)))) ∧ Below w.heap.size w w' := by
  have hmax : lg.length ≤ 9223372036854775807 := hG.2.1
  have HC := Aside0.mk (fun W (h : Below w.heap.size w W) => Kd.C_below hG h)
  have HF := Aside0.mk hF
  have HB := Aside0.mk (below_alloc (Below.refl w.heap.size w) (go 7 s A2 A3 A4 A5 n2 c2 n3 c3 n4 c4 lg.length c5))
  clear hG hF
  go_enter Try.func7, Try.ntmps7
  go_wp2
  go_loopw [3, 16] (fun t3 t16 wr => ∃ j : Nat, t16 = .int .i64 (j : Int) ∧ j ≤ lg.length ∧ t3 = .int .i64 (mostS ((lg.map (·.1)).take j)) ∧ Aside0 (Below w.heap.size w wr)) (fun _ t16 _ => lg.length - (intOf t16).toNat)
  case atStart => exact ⟨0, rfl, Nat.zero_le _, rfl, HB⟩
  case round =>
    obtain ⟨j, rfl, hj, rfl, HBr⟩ := hrel
    rcases Nat.lt_or_ge j lg.length with hlt | hge
    · obtain ⟨ad, g, s', k2, k3, k4, B5, n5, d5, B2, d2, B3, d3, B4, d4, rfl, hx, hLy, g0, g1, g2, g3, g4, g5⟩ := at_geo (HC.out wr HBr.out) j hlt
      have hxe : lg[j] = (g, s', k2, k3, k4, B5, n5, d5) := by rw [List.getElem?_eq_getElem hlt] at hx; exact Option.some.inj hx
      have hfl : Flat g k2 k3 k4 := by have h := HF.out _ (List.getElem_mem hlt); rw [hxe] at h; exact h
      have hA := below_alloc (Below.refl wr.heap.size wr) (go g s' B2 B3 B4 B5 k2.length d2 k3.length d3 k4.length d4 n5 d5)
      have H1 := Aside0.mk (specFlat_ok g s' B2 B3 B4 B5 k2.length d2 k3.length d3 k4.length d4 n5 d5 hfl.kind (wr.alloc (go g s' B2 B3 B4 B5 k2.length d2 k3.length d3 k4.length d4 n5 d5)))
      have HA1 := Aside0.mk hA
      have HM := Aside0.mk (show mostS ((lg.map (·.1)).take (j + 1)) = (if mostS ((lg.map (·.1)).take j) < dimOf g then dimOf g else mostS ((lg.map (·.1)).take j)) by
        rw [mostS_next _ _ (by rw [List.length_map]; exact hlt), List.getElem_map, hxe]
        show max _ (dimOf g) = _
        split <;> omega)
      clear hx hxe hfl hLy hA
      generalize dimOf g = D at *
      generalize mostS ((lg.map (·.1)).take j) = M at *
      generalize k2.length = e2 at *
      generalize k3.length = e3 at *
      generalize k4.length = e4 at *
      go_wp2_with fail
      refine H1.out.mono ?_
      rintro e w2 ⟨rfl, hb⟩
      have HB2 := Aside0.mk (below_step (below_step HBr.out HA1.out) hb)
      clear hb H1 HBr HA1
      go_wp2_with fail
      go_roundw
      case rel => exact ⟨j + 1, by go_num, by omega, by rw [HM.out], HB2⟩
      case measure => simp [intOf]; omega
    · obtain rfl : j = lg.length := by omega
      have hall : (lg.map (·.1)).take lg.length = lg.map (·.1) := by rw [show lg.length = (lg.map (·.1)).length by rw [List.length_map], List.take_length]
      rw [hall]
      go_wp2
      go_ret
      exact ⟨rfl, HBr.out⟩
end Go.Proofs.Ytkcffmnccjemiaa.GD
