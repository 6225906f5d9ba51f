/-
  FindDimension of a collection of flat geometries. Condition: geFit's.
-/
import Derived.Test.YtkcffmnccjemiaaGDm
namespace Go.Proofs.Ytkcffmnccjemiaa.GD
open Go.RowKit Go.Proofs.YtkcffmnccjemiaaW.PrintWords Go.Proofs.YtkcffmnccjemiaaW.PrintLast Go.Proofs.YtkcffmnccjemiaaW.PrintMore
set_option linter.unusedVariables false
set_option linter.unusedSimpArgs false
set_option maxRecDepth 100000
set_option maxHeartbeats 400000

/-- The greatest dimension, from one on. -/
def most (m : Int) (ks : List Int) : Int := ks.foldl (fun m k => if m < dimOf k then dimOf k else m) m
theorem at_I {w : World} {A : Option Addr} {n : Nat} {xs : List (Nat × Value)} (h : kI.C w A n xs) (i : Nat) (h1 : i < n) : ∃ ad p, A = some ad ∧ xs[i]? = some p ∧ w.cell? (ad.add i) = some (.iface p.1 p.2) := by
  have hlen : i < xs.length := by have := h.1; omega
  obtain ⟨ad, c, e, hl, hK, hc0⟩ := Kd.C_get h ((0, .nilIface) : Nat × Value) (i : Int) (by omega) (by omega)
  rw [Int.toNat_natCast, List.getD_eq_getElem?_getD, List.getElem?_eq_getElem hlen, Option.getD_some] at hK
  have hK : c = [.iface xs[i].1 xs[i].2] := hK
  subst hK
  have hc := hc0 0 _ rfl
  rw [Int.toNat_natCast] at hc
  refine ⟨ad, xs[i], e, List.getElem?_eq_getElem hlen, ?_⟩
  rw [show ad.add i = ad.add (i * kI.sz + 0) by show ad.add i = ad.add (i * 1 + 0); rw [Nat.mul_one, Nat.add_zero]]
  exact hc
theorem dim57n_ok (s : Int) (c : Nat) (A : Option Addr) (w : World) : Calls Try.prog 11 #[.iface 57 (.agg #[.int .u32 s, .slice A 0 c])] w fun e w' => e = .returned .nilIface ∧ Below w.heap.size w w' := by
  go_enter Try.func11, Try.ntmps11
  go_wp2
  go_ret
  exact ⟨rfl, below_alloc (Below.refl _ _) _⟩
theorem most_next (m : Int) (ks : List Int) (j : Nat) (h : j < ks.length) : most m (ks.take (j + 1)) = if most m (ks.take j) < dimOf ks[j] then dimOf ks[j] else most m (ks.take j) := by
  unfold most
  rw [List.take_succ_eq_append_getElem h, List.foldl_append]
  rfl
theorem dim57_ok (s : Int) (c : Nat) (A : Option Addr) (n : Nat) (acc : List (Nat × Value)) (ks : List Int) (hks : ∀ k ∈ ks, k = 1 ∨ k = 2 ∨ k = 3 ∨ k = 4 ∨ k = 5 ∨ k = 6) (ha : acc.map (·.1) = ks.map typeOf) (hn : n = ks.length) (h0 : 0 < n) (w : World) (hC : kI.C w A n acc) :
    Calls Try.prog 11 #[.iface 57 (.agg #[.int .u32 s, .slice A n c])] w fun e w' => e = .returned (.iface 3 (.int .i64 (most 0 ks))) ∧ Below w.heap.size w w' := by
  have hmax : n ≤ 9223372036854775807 := hC.2.1
  have HC := Aside0.mk (fun W (h : Below w.heap.size w W) => Kd.C_below hC h)
  have HK := Aside0.mk hks
  have HA := Aside0.mk ha
  have HB := Aside0.mk (below_alloc (Below.refl w.heap.size w) (.cells #[.int .u32 s, .slice A n c] 57))
  have hnz : ¬ n = 0 := by omega
  have hnb : ((n : Int) == 0) = false := by simpa using hnz
  have HNN := Aside0.mk hn
  clear hC hks ha hn h0
  go_enter Try.func11, Try.ntmps11
  go_wp2
  go_loopw [7, 9, 10, 47] (fun t7 t9 t10 t47 wr => ∃ j : Nat, t47 = .int .i64 (j : Int) ∧ j ≤ n ∧ t7 = .int .i64 (most 0 (ks.take j)) ∧ Aside0 (Below w.heap.size w wr)) (fun _ _ _ t47 _ => n - (intOf t47).toNat)
  case atStart => exact ⟨0, rfl, Nat.zero_le _, rfl, HB⟩
  case round =>
    obtain ⟨j, rfl, hj, rfl, HBr⟩ := hrel
    rcases Nat.lt_or_ge j n with hlt | hge
    · obtain ⟨ad, p, rfl, hx, hcell⟩ := at_I (HC.out wr HBr.out) j hlt
      have hjk : j < ks.length := by have := HNN.out; omega
      have hT : p.1 = typeOf ks[j] := by
        have h := congrArg (fun l => l[j]?) HA.out
        simp only [List.getElem?_map, hx, List.getElem?_eq_getElem hjk, Option.map_some, Option.some.injEq] at h
        exact h
      have H1 := Aside0.mk (flatDim_ok ks[j] (HK.out _ (List.getElem_mem hjk)) p.2 wr)
      rw [hT] at hcell
      have HM := Aside0.mk (most_next 0 ks j hjk)
      clear hx hT
      generalize typeOf ks[j] = T at *
      generalize dimOf ks[j] = D at *
      generalize most 0 (ks.take j) = M at *
      go_wp2_with fail
      refine H1.out.mono ?_
      rintro e w2 ⟨rfl, hb⟩
      have HB2 := Aside0.mk (below_step HBr.out hb)
      clear hb H1 HBr
      by_cases hd : M < D
      · have hm := HM.out.trans (if_pos hd)
        have HMM := Aside0.mk hm
        clear hm
        go_wp2_with fail
        go_roundw
        case rel => exact ⟨j + 1, by go_num, by omega, by rw [HMM.out], HB2⟩
        case measure => simp [intOf]; omega
      · have hm := HM.out.trans (if_neg hd)
        have HMM := Aside0.mk hm
        clear hm
        go_wp2_with fail
        go_roundw
        case rel => exact ⟨j + 1, by go_num, by omega, by rw [HMM.out], HB2⟩
        case measure => simp [intOf]; omega
    · obtain rfl : j = n := by omega
      have hall : ks.take j = ks := by rw [HNN.out, List.take_length]
      rw [hall]
      go_wp2
      go_ret
      exact ⟨rfl, HBr.out⟩
end Go.Proofs.Ytkcffmnccjemiaa.GD
