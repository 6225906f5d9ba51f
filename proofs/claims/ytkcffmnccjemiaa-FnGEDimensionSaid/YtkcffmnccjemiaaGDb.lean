/-
  Contracts of GERing and of geFlat's lines. No condition.
-/
import Derived.Test.YtkcffmnccjemiaaGDa
import Derived.ChangeKeysEq
namespace Go.Proofs.Ytkcffmnccjemiaa.GD
open Go.RowKit Go.Proofs.YtkcffmnccjemiaaW.PrintWords Go.Proofs.YtkcffmnccjemiaaW.PrintLast Go.Proofs.YtkcffmnccjemiaaW.PrintMore
set_option linter.unusedVariables false
set_option linter.unusedSimpArgs false
set_option maxRecDepth 100000
set_option maxHeartbeats 400000

section
variable {P : Program} {md : Region.Mode} {ops : Array Oper} {Q : Exit → Act → World → Prop} {S : World → Prop}
/-- An operation taken first, its place by name. -/
theorem take_ {i : Nat} {oi : Oper} {N : Option Tmp} {v : Value} {fuel : Nat} {listed : Array Bool} {a : Act} {w : World} (hi : ops[i]? = some oi)
    (hs : Region.noSelect ops = true) (hf : Region.free md ops listed i = true) (hr : (Region.ready md ops listed).contains i = true)
    (hQ : ∀ c a w, Q (.panic c) (a.put oi.dst v) w → Q (.panic c) a w) (hN : oi.dst = N) (hy : YieldsIf P ops S oi v a) (hS : S w)
    (h : wpAnyH P md ops Q S fuel (listed.setIfInBounds i true) (a.put N v) w) : wpAnyH P md ops Q S (fuel + 1) listed a w := by
  subst hN
  exact wpAnyH_take hi hs hf hr hQ hy hS h
end
theorem und41 : Try.prog.underlying 41 = some (.float .f64) := by kernel_rfl
theorem und65 : Try.prog.underlying 65 = some (.array 2 41) := by kernel_rfl
theorem inf41 : ∃ i, Try.prog.info? 41 = some i := Option.isSome_iff_exists.1 (by kernel_rfl)
theorem cells41 : Try.prog.cellsOf 41 = 1 := by kernel_rfl
theorem eqIn_f (d : Nat) (a b : Nat) (W : World) : (Op.equalIn (d + 1) 41 (.float .f64 a) (.float .f64 b)).run Try.prog W = .ok (FloatKind.f64.format.order a b == some .eq) W := by
  simp [Op.equalIn, run_underlying und41]
  rfl
theorem eq_pt (a0 a1 b0 b1 : Nat) (W : World) : (binOp .eql 65 (pt a0 a1) (pt b0 b1)).run Try.prog W = .ok (.bool ((FloatKind.f64.format.order a0 b0 == some .eq) && (FloatKind.f64.format.order a1 b1 == some .eq))) W := by
  obtain ⟨i, hi⟩ := inf41
  unfold pt
  rw [run_eql_struct, show (10000 : Nat) = 9999 + 1 from rfl, run_equalIn_array W 9999 _ _ und65 hi]
  rw [cells41, show List.range 2 = [0, 1] from rfl]
  have p0 : ∀ (x y : Nat) W, (part 41 #[.float .f64 x, .float .f64 y] 0).run Try.prog W = .ok (.float .f64 x) W := fun x y W => by kernel_rfl
  have p1 : ∀ (x y : Nat) W, (part 41 #[.float .f64 x, .float .f64 y] 1).run Try.prog W = .ok (.float .f64 y) W := fun x y W => by kernel_rfl
  simp only [Op.eqItems, Sem.run_bind, Nat.zero_mul, Nat.mul_one, p0, p1, Result.andThen_ok]
  rw [show (9999 : Nat) = 9998 + 1 from rfl, eqIn_f]
  simp only [Result.andThen_ok]
  cases (FloatKind.f64.format.order a0 b0 == some Ordering.eq)
  · simp
  · simp [eqIn_f 9998, p1]
    split <;> simp [*]
theorem at_Q {w : World} {A : Option Addr} {n : Nat} {xs : List (Nat × Nat)} (h : kQ.C w A n xs) (i : Nat) (h1 : i < n) : ∃ ad p, A = some ad ∧ xs[i]? = some p ∧ w.cell? (ad.add (i * 2)) = some (.float .f64 p.1) ∧ w.cell? ⟨(ad.add (i * 2)).block, (ad.add (i * 2)).off + 1, none⟩ = some (.float .f64 p.2) := by
  obtain ⟨ad, c, e, hl, hK, hc0⟩ := Kd.C_get h ((0, 0) : Nat × Nat) (i : Int) (by omega) (by omega)
  have hlen : i < xs.length := by have := h.1; omega
  have hc : ∀ j u, c[j]? = some u → w.cell? (ad.add (i * 2 + j)) = some u := hc0
  rw [Int.toNat_natCast, List.getD_eq_getElem?_getD, List.getElem?_eq_getElem hlen, Option.getD_some] at hK
  obtain ⟨_, _, rfl, rfl, rfl⟩ := hK
  exact ⟨ad, xs[i], e, List.getElem?_eq_getElem hlen, hc 0 _ rfl, by rw [← add_field _ _ 1 (by omega)]; exact hc 1 _ rfl⟩
theorem ring_ok (A : Option Addr) (c : Nat) (l : List (Nat × Nat)) (w : World) (hC : kQ.C w A l.length l) :
    Calls Try.prog 14 #[.slice A l.length c] w fun e w' => BoolOut e ∧ Below w.heap.size w w' := by
  have hmax : l.length ≤ 9223372036854775807 := hC.2.1
  by_cases h4 : 4 ≤ l.length
  case neg =>
    have hno : (decide ((4 : Int) ≤ (l.length : Int))) = false := decide_eq_false (by omega)
    clear hC
    generalize l.length = n at *
    go_enter Try.func14, Try.ntmps14
    go_wp2
    refine wp_region_noPanic ?_
    refine wp_region_held_drew (S := fun W => Below w.heap.size w W) (by kernel_rfl) ?_ (fun hHeld => ?_)
    · exact below_drew (Below.refl _ _)
    refine take_ (oi := ?oi1) (i := 0) (N := some 3) (v := ?v1) ?hi1 (by kernel_rfl) (by kernel_rfl) (by kernel_rfl) ?hQ1 ?hN1 (Or.inl ⟨?hw1, ?hy1⟩) hHeld ?rest1
    case hi1 => simp only [List.getElem?_toArray, List.getElem?_cons_zero, List.getElem?_cons_succ]; rfl
    case hQ1 => exact fun _ _ _ h => h
    case hN1 => rfl
    case hw1 => rfl
    case hy1 => intro W hSw; go_simp; (try with_reducible rfl)
    simp only [Act.put, List.setIfInBounds_toArray, List.set_cons_zero, List.set_cons_succ]
    refine take_ (oi := ?oi2) (i := 1) (N := some 4) (v := ?v2) ?hi2 (by kernel_rfl) (by kernel_rfl) (by kernel_rfl) ?hQ2 ?hN2 (Or.inl ⟨?hw2, ?hy2⟩) hHeld ?rest2
    case hi2 => simp only [List.getElem?_toArray, List.getElem?_cons_zero, List.getElem?_cons_succ]; rfl
    case hQ2 => exact fun _ _ _ h => h
    case hN2 => rfl
    case hw2 => rfl
    case hy2 => intro W hSw; go_simp; (try with_reducible rfl)
    simp only [Act.put, List.setIfInBounds_toArray, List.set_cons_zero, List.set_cons_succ]
    refine take_ (oi := ?oi3) (i := 2) (N := some 5) (v := ?v3) ?hi3 (by kernel_rfl) (by kernel_rfl) (by kernel_rfl) ?hQ3 ?hN3 (Or.inl ⟨?hw3, ?hy3⟩) hHeld ?rest3
    case hi3 => simp only [List.getElem?_toArray, List.getElem?_cons_zero, List.getElem?_cons_succ]; rfl
    case hQ3 => exact fun _ _ _ h => h
    case hN3 => rfl
    case hw3 => rfl
    case hy3 => intro W hSw; go_simp; (try with_reducible rfl)
    simp only [Act.put, List.setIfInBounds_toArray, List.set_cons_zero, List.set_cons_succ]
    refine take_ (oi := ?oi4) (i := 3) (N := some 6) (v := ?v4) ?hi4 (by kernel_rfl) (by kernel_rfl) (by kernel_rfl) ?hQ4 ?hN4 (Or.inl ⟨?hw4, ?hy4⟩) hHeld ?rest4
    case hi4 => simp only [List.getElem?_toArray, List.getElem?_cons_zero, List.getElem?_cons_succ]; rfl
    case hQ4 => exact fun _ _ _ h => h
    case hN4 => rfl
    case hw4 => rfl
    case hy4 => intro W hSw; go_simp; (try with_reducible rfl)
    simp only [Act.put, List.setIfInBounds_toArray, List.set_cons_zero, List.set_cons_succ]
    refine take_ (oi := ?oi5) (i := 4) (N := some 7) (v := undef) ?hi5 (by kernel_rfl) (by kernel_rfl) (by kernel_rfl) ?hQ5 ?hN5 (Or.inr ⟨?hw5, rfl⟩) hHeld ?rest5
    case hi5 => simp only [List.getElem?_toArray, List.getElem?_cons_zero, List.getElem?_cons_succ]; rfl
    case hQ5 => exact fun _ _ _ h => h
    case hN5 => rfl
    case hw5 => rfl
    simp only [Act.put, List.setIfInBounds_toArray, List.set_cons_zero, List.set_cons_succ]
    refine take_ (oi := ?oi6) (i := 5) (N := some 8) (v := undef) ?hi6 (by kernel_rfl) (by kernel_rfl) (by kernel_rfl) ?hQ6 ?hN6 (Or.inr ⟨?hw6, rfl⟩) hHeld ?rest6
    case hi6 => simp only [List.getElem?_toArray, List.getElem?_cons_zero, List.getElem?_cons_succ]; rfl
    case hQ6 => exact fun _ _ _ h => h
    case hN6 => rfl
    case hw6 => rfl
    simp only [Act.put, List.setIfInBounds_toArray, List.set_cons_zero, List.set_cons_succ]
    refine take_ (oi := ?oi7) (i := 6) (N := some 9) (v := undef) ?hi7 (by kernel_rfl) (by kernel_rfl) (by kernel_rfl) ?hQ7 ?hN7 (Or.inr ⟨?hw7, rfl⟩) hHeld ?rest7
    case hi7 => simp only [List.getElem?_toArray, List.getElem?_cons_zero, List.getElem?_cons_succ]; rfl
    case hQ7 => exact fun _ _ _ h => h
    case hN7 => rfl
    case hw7 => rfl
    simp only [Act.put, List.setIfInBounds_toArray, List.set_cons_zero, List.set_cons_succ]
    refine take_ (oi := ?oi8) (i := 7) (N := some 10) (v := undef) ?hi8 (by kernel_rfl) (by kernel_rfl) (by kernel_rfl) ?hQ8 ?hN8 (Or.inr ⟨?hw8, rfl⟩) hHeld ?rest8
    case hi8 => simp only [List.getElem?_toArray, List.getElem?_cons_zero, List.getElem?_cons_succ]; rfl
    case hQ8 => exact fun _ _ _ h => h
    case hN8 => rfl
    case hw8 => rfl
    simp only [Act.put, List.setIfInBounds_toArray, List.set_cons_zero, List.set_cons_succ]
    refine take_ (oi := ?oi9) (i := 8) (N := some 11) (v := undef) ?hi9 (by kernel_rfl) (by kernel_rfl) (by kernel_rfl) ?hQ9 ?hN9 (Or.inr ⟨?hw9, rfl⟩) hHeld ?rest9
    case hi9 => simp only [List.getElem?_toArray, List.getElem?_cons_zero, List.getElem?_cons_succ]; rfl
    case hQ9 => exact fun _ _ _ h => h
    case hN9 => rfl
    case hw9 => rfl
    simp only [Act.put, List.setIfInBounds_toArray, List.set_cons_zero, List.set_cons_succ]
    refine take_ (oi := ?oi10) (i := 9) (N := some 12) (v := undef) ?hi10 (by kernel_rfl) (by kernel_rfl) (by kernel_rfl) ?hQ10 ?hN10 (Or.inr ⟨?hw10, rfl⟩) hHeld ?rest10
    case hi10 => simp only [List.getElem?_toArray, List.getElem?_cons_zero, List.getElem?_cons_succ]; rfl
    case hQ10 => exact fun _ _ _ h => h
    case hN10 => rfl
    case hw10 => rfl
    simp only [Act.put, List.setIfInBounds_toArray, List.set_cons_zero, List.set_cons_succ]
    refine take_ (oi := ?oi11) (i := 10) (N := some 13) (v := undef) ?hi11 (by kernel_rfl) (by kernel_rfl) (by kernel_rfl) ?hQ11 ?hN11 (Or.inr ⟨?hw11, rfl⟩) hHeld ?rest11
    case hi11 => simp only [List.getElem?_toArray, List.getElem?_cons_zero, List.getElem?_cons_succ]; rfl
    case hQ11 => exact fun _ _ _ h => h
    case hN11 => rfl
    case hw11 => rfl
    simp only [Act.put, List.setIfInBounds_toArray, List.set_cons_zero, List.set_cons_succ]
    refine take_ (oi := ?oi12) (i := 11) (N := some 14) (v := undef) ?hi12 (by kernel_rfl) (by kernel_rfl) (by kernel_rfl) ?hQ12 ?hN12 (Or.inr ⟨?hw12, rfl⟩) hHeld ?rest12
    case hi12 => simp only [List.getElem?_toArray, List.getElem?_cons_zero, List.getElem?_cons_succ]; rfl
    case hQ12 => exact fun _ _ _ h => h
    case hN12 => rfl
    case hw12 => rfl
    simp only [Act.put, List.setIfInBounds_toArray, List.set_cons_zero, List.set_cons_succ]
    refine take_ (oi := ?oi13) (i := 12) (N := some 15) (v := undef) ?hi13 (by kernel_rfl) (by kernel_rfl) (by kernel_rfl) ?hQ13 ?hN13 (Or.inr ⟨?hw13, rfl⟩) hHeld ?rest13
    case hi13 => simp only [List.getElem?_toArray, List.getElem?_cons_zero, List.getElem?_cons_succ]; rfl
    case hQ13 => exact fun _ _ _ h => h
    case hN13 => rfl
    case hw13 => rfl
    simp only [Act.put, List.setIfInBounds_toArray, List.set_cons_zero, List.set_cons_succ]
    refine take_ (oi := ?oi14) (i := 13) (N := some 16) (v := undef) ?hi14 (by kernel_rfl) (by kernel_rfl) (by kernel_rfl) ?hQ14 ?hN14 (Or.inr ⟨?hw14, rfl⟩) hHeld ?rest14
    case hi14 => simp only [List.getElem?_toArray, List.getElem?_cons_zero, List.getElem?_cons_succ]; rfl
    case hQ14 => exact fun _ _ _ h => h
    case hN14 => rfl
    case hw14 => rfl
    simp only [Act.put, List.setIfInBounds_toArray, List.set_cons_zero, List.set_cons_succ]
    refine take_ (oi := ?oi15) (i := 14) (N := some 17) (v := ?v15) ?hi15 (by kernel_rfl) (by kernel_rfl) (by kernel_rfl) ?hQ15 ?hN15 (Or.inl ⟨?hw15, ?hy15⟩) hHeld ?rest15
    case hi15 => simp only [List.getElem?_toArray, List.getElem?_cons_zero, List.getElem?_cons_succ]; rfl
    case hQ15 => exact fun _ _ _ h => h
    case hN15 => rfl
    case hw15 => rfl
    case hy15 => intro W hSw; go_simp; (try with_reducible rfl)
    simp only [Act.put, List.setIfInBounds_toArray, List.set_cons_zero, List.set_cons_succ]
    refine take_ (oi := ?oi16) (i := 15) (N := some 2) (v := ?v16) ?hi16 (by kernel_rfl) (by kernel_rfl) (by kernel_rfl) ?hQ16 ?hN16 (Or.inl ⟨?hw16, ?hy16⟩) hHeld ?rest16
    case hi16 => simp only [List.getElem?_toArray, List.getElem?_cons_zero, List.getElem?_cons_succ]; rfl
    case hQ16 => exact fun _ _ _ h => h
    case hN16 => rfl
    case hw16 => rfl
    case hy16 => intro W hSw; go_simp; (try with_reducible rfl)
    simp only [Act.put, List.setIfInBounds_toArray, List.set_cons_zero, List.set_cons_succ]
    refine wpAnyH_done (by kernel_rfl) ?_ _
    refine NoPanic.normal ?_
    go_wp2
    go_ret
    exact ⟨⟨_, rfl⟩, hHeld⟩
  obtain ⟨ad, p, rfl, -, q0, q1⟩ := at_Q hC 0 (by omega)
  obtain ⟨ad', r, he, -, q2, q3⟩ := at_Q hC (l.length - 1) (by omega)
  cases he
  have hyes : (decide ((4 : Int) ≤ (l.length : Int))) = true := decide_eq_true (by omega)
  have hw : IntKind.i64.wrap ((l.length : Int) - 1) = ((l.length - 1 : Nat) : Int) := by rw [IntWalk.i64_in _ (by omega)]; omega
  have hkn : l.length - 1 < l.length := by omega
  have hr1 : (0 : Int) ≤ ((l.length - 1 : Nat) : Int) ∧ ((l.length - 1 : Nat) : Int) < (l.length : Int) := by omega
  have hr0 : (0 : Int) < (l.length : Int) := by omega
  have hz : ((l.length - 1 : Nat) : Int).toNat = l.length - 1 := by omega
  have E := eq_pt p.1 p.2 r.1 r.2
  rw [show ad.add (0 * 2) = ad by cases ad; simp [Addr.add]] at q0 q1
  have hn0 : 0 < l.length := by omega
  clear hC
  generalize l.length - 1 = k at *
  generalize l.length = n at *
  go_enter Try.func14, Try.ntmps14
  go_wp2
  refine wp_region_noPanic ?_
  refine wp_region_held_drew (S := fun W => Below w.heap.size w W) (by kernel_rfl) ?_ (fun hHeld => ?_)
  · exact below_drew (Below.refl _ _)
  refine take_ (oi := ?oi17) (i := 0) (N := some 3) (v := ?v17) ?hi17 (by kernel_rfl) (by kernel_rfl) (by kernel_rfl) ?hQ17 ?hN17 (Or.inl ⟨?hw17, ?hy17⟩) hHeld ?rest17
  case hi17 => simp only [List.getElem?_toArray, List.getElem?_cons_zero, List.getElem?_cons_succ]; rfl
  case hQ17 => exact fun _ _ _ h => h
  case hN17 => rfl
  case hw17 => rfl
  case hy17 => intro W hSw; have z0 := pw_cell_below (show Below _ _ W from hSw) q0; have z1 := pw_cell_below (show Below _ _ W from hSw) q1; have z2 := pw_cell_below (show Below _ _ W from hSw) q2; have z3 := pw_cell_below (show Below _ _ W from hSw) q3; go_simp; (try with_reducible rfl)
  simp only [Act.put, List.setIfInBounds_toArray, List.set_cons_zero, List.set_cons_succ]
  refine take_ (oi := ?oi18) (i := 1) (N := some 4) (v := ?v18) ?hi18 (by kernel_rfl) (by kernel_rfl) (by kernel_rfl) ?hQ18 ?hN18 (Or.inl ⟨?hw18, ?hy18⟩) hHeld ?rest18
  case hi18 => simp only [List.getElem?_toArray, List.getElem?_cons_zero, List.getElem?_cons_succ]; rfl
  case hQ18 => exact fun _ _ _ h => h
  case hN18 => rfl
  case hw18 => rfl
  case hy18 => intro W hSw; have z0 := pw_cell_below (show Below _ _ W from hSw) q0; have z1 := pw_cell_below (show Below _ _ W from hSw) q1; have z2 := pw_cell_below (show Below _ _ W from hSw) q2; have z3 := pw_cell_below (show Below _ _ W from hSw) q3; go_simp; (try with_reducible rfl)
  simp only [Act.put, List.setIfInBounds_toArray, List.set_cons_zero, List.set_cons_succ]
  refine take_ (oi := ?oi19) (i := 2) (N := some 5) (v := ?v19) ?hi19 (by kernel_rfl) (by kernel_rfl) (by kernel_rfl) ?hQ19 ?hN19 (Or.inl ⟨?hw19, ?hy19⟩) hHeld ?rest19
  case hi19 => simp only [List.getElem?_toArray, List.getElem?_cons_zero, List.getElem?_cons_succ]; rfl
  case hQ19 => exact fun _ _ _ h => h
  case hN19 => rfl
  case hw19 => rfl
  case hy19 => intro W hSw; have z0 := pw_cell_below (show Below _ _ W from hSw) q0; have z1 := pw_cell_below (show Below _ _ W from hSw) q1; have z2 := pw_cell_below (show Below _ _ W from hSw) q2; have z3 := pw_cell_below (show Below _ _ W from hSw) q3; go_simp; (try with_reducible rfl)
  simp only [Act.put, List.setIfInBounds_toArray, List.set_cons_zero, List.set_cons_succ]
  refine take_ (oi := ?oi20) (i := 3) (N := some 6) (v := ?v20) ?hi20 (by kernel_rfl) (by kernel_rfl) (by kernel_rfl) ?hQ20 ?hN20 (Or.inl ⟨?hw20, ?hy20⟩) hHeld ?rest20
  case hi20 => simp only [List.getElem?_toArray, List.getElem?_cons_zero, List.getElem?_cons_succ]; rfl
  case hQ20 => exact fun _ _ _ h => h
  case hN20 => rfl
  case hw20 => rfl
  case hy20 => intro W hSw; have z0 := pw_cell_below (show Below _ _ W from hSw) q0; have z1 := pw_cell_below (show Below _ _ W from hSw) q1; have z2 := pw_cell_below (show Below _ _ W from hSw) q2; have z3 := pw_cell_below (show Below _ _ W from hSw) q3; go_simp; (try with_reducible rfl)
  simp only [Act.put, List.setIfInBounds_toArray, List.set_cons_zero, List.set_cons_succ]
  refine take_ (oi := ?oi21) (i := 4) (N := some 7) (v := ?v21) ?hi21 (by kernel_rfl) (by kernel_rfl) (by kernel_rfl) ?hQ21 ?hN21 (Or.inl ⟨?hw21, ?hy21⟩) hHeld ?rest21
  case hi21 => simp only [List.getElem?_toArray, List.getElem?_cons_zero, List.getElem?_cons_succ]; rfl
  case hQ21 => exact fun _ _ _ h => h
  case hN21 => rfl
  case hw21 => rfl
  case hy21 => intro W hSw; have z0 := pw_cell_below (show Below _ _ W from hSw) q0; have z1 := pw_cell_below (show Below _ _ W from hSw) q1; have z2 := pw_cell_below (show Below _ _ W from hSw) q2; have z3 := pw_cell_below (show Below _ _ W from hSw) q3; go_simp; (try with_reducible rfl)
  simp only [Act.put, List.setIfInBounds_toArray, List.set_cons_zero, List.set_cons_succ]
  refine take_ (oi := ?oi22) (i := 5) (N := some 8) (v := ?v22) ?hi22 (by kernel_rfl) (by kernel_rfl) (by kernel_rfl) ?hQ22 ?hN22 (Or.inl ⟨?hw22, ?hy22⟩) hHeld ?rest22
  case hi22 => simp only [List.getElem?_toArray, List.getElem?_cons_zero, List.getElem?_cons_succ]; rfl
  case hQ22 => exact fun _ _ _ h => h
  case hN22 => rfl
  case hw22 => rfl
  case hy22 => intro W hSw; have z0 := pw_cell_below (show Below _ _ W from hSw) q0; have z1 := pw_cell_below (show Below _ _ W from hSw) q1; have z2 := pw_cell_below (show Below _ _ W from hSw) q2; have z3 := pw_cell_below (show Below _ _ W from hSw) q3; go_simp; (try with_reducible rfl)
  simp only [Act.put, List.setIfInBounds_toArray, List.set_cons_zero, List.set_cons_succ]
  refine take_ (oi := ?oi23) (i := 6) (N := some 9) (v := ?v23) ?hi23 (by kernel_rfl) (by kernel_rfl) (by kernel_rfl) ?hQ23 ?hN23 (Or.inl ⟨?hw23, ?hy23⟩) hHeld ?rest23
  case hi23 => simp only [List.getElem?_toArray, List.getElem?_cons_zero, List.getElem?_cons_succ]; rfl
  case hQ23 => exact fun _ _ _ h => h
  case hN23 => rfl
  case hw23 => rfl
  case hy23 => intro W hSw; have z0 := pw_cell_below (show Below _ _ W from hSw) q0; have z1 := pw_cell_below (show Below _ _ W from hSw) q1; have z2 := pw_cell_below (show Below _ _ W from hSw) q2; have z3 := pw_cell_below (show Below _ _ W from hSw) q3; go_simp; (try with_reducible rfl)
  simp only [Act.put, List.setIfInBounds_toArray, List.set_cons_zero, List.set_cons_succ]
  refine take_ (oi := ?oi24) (i := 7) (N := some 10) (v := ?v24) ?hi24 (by kernel_rfl) (by kernel_rfl) (by kernel_rfl) ?hQ24 ?hN24 (Or.inl ⟨?hw24, ?hy24⟩) hHeld ?rest24
  case hi24 => simp only [List.getElem?_toArray, List.getElem?_cons_zero, List.getElem?_cons_succ]; rfl
  case hQ24 => exact fun _ _ _ h => h
  case hN24 => rfl
  case hw24 => rfl
  case hy24 => intro W hSw; have z0 := pw_cell_below (show Below _ _ W from hSw) q0; have z1 := pw_cell_below (show Below _ _ W from hSw) q1; have z2 := pw_cell_below (show Below _ _ W from hSw) q2; have z3 := pw_cell_below (show Below _ _ W from hSw) q3; go_simp; (try with_reducible rfl)
  simp only [Act.put, List.setIfInBounds_toArray, List.set_cons_zero, List.set_cons_succ]
  refine take_ (oi := ?oi25) (i := 8) (N := some 11) (v := ?v25) ?hi25 (by kernel_rfl) (by kernel_rfl) (by kernel_rfl) ?hQ25 ?hN25 (Or.inl ⟨?hw25, ?hy25⟩) hHeld ?rest25
  case hi25 => simp only [List.getElem?_toArray, List.getElem?_cons_zero, List.getElem?_cons_succ]; rfl
  case hQ25 => exact fun _ _ _ h => h
  case hN25 => rfl
  case hw25 => rfl
  case hy25 => intro W hSw; have z0 := pw_cell_below (show Below _ _ W from hSw) q0; have z1 := pw_cell_below (show Below _ _ W from hSw) q1; have z2 := pw_cell_below (show Below _ _ W from hSw) q2; have z3 := pw_cell_below (show Below _ _ W from hSw) q3; go_simp; (try with_reducible rfl)
  simp only [Act.put, List.setIfInBounds_toArray, List.set_cons_zero, List.set_cons_succ]
  refine take_ (oi := ?oi26) (i := 9) (N := some 12) (v := ?v26) ?hi26 (by kernel_rfl) (by kernel_rfl) (by kernel_rfl) ?hQ26 ?hN26 (Or.inl ⟨?hw26, ?hy26⟩) hHeld ?rest26
  case hi26 => simp only [List.getElem?_toArray, List.getElem?_cons_zero, List.getElem?_cons_succ]; rfl
  case hQ26 => exact fun _ _ _ h => h
  case hN26 => rfl
  case hw26 => rfl
  case hy26 => intro W hSw; have z0 := pw_cell_below (show Below _ _ W from hSw) q0; have z1 := pw_cell_below (show Below _ _ W from hSw) q1; have z2 := pw_cell_below (show Below _ _ W from hSw) q2; have z3 := pw_cell_below (show Below _ _ W from hSw) q3; go_simp; (try with_reducible rfl)
  simp only [Act.put, List.setIfInBounds_toArray, List.set_cons_zero, List.set_cons_succ]
  refine take_ (oi := ?oi27) (i := 10) (N := some 13) (v := ?v27) ?hi27 (by kernel_rfl) (by kernel_rfl) (by kernel_rfl) ?hQ27 ?hN27 (Or.inl ⟨?hw27, ?hy27⟩) hHeld ?rest27
  case hi27 => simp only [List.getElem?_toArray, List.getElem?_cons_zero, List.getElem?_cons_succ]; rfl
  case hQ27 => exact fun _ _ _ h => h
  case hN27 => rfl
  case hw27 => rfl
  case hy27 => intro W hSw; have z0 := pw_cell_below (show Below _ _ W from hSw) q0; have z1 := pw_cell_below (show Below _ _ W from hSw) q1; have z2 := pw_cell_below (show Below _ _ W from hSw) q2; have z3 := pw_cell_below (show Below _ _ W from hSw) q3; go_simp; (try with_reducible rfl)
  simp only [Act.put, List.setIfInBounds_toArray, List.set_cons_zero, List.set_cons_succ]
  refine take_ (oi := ?oi28) (i := 11) (N := some 14) (v := ?v28) ?hi28 (by kernel_rfl) (by kernel_rfl) (by kernel_rfl) ?hQ28 ?hN28 (Or.inl ⟨?hw28, ?hy28⟩) hHeld ?rest28
  case hi28 => simp only [List.getElem?_toArray, List.getElem?_cons_zero, List.getElem?_cons_succ]; rfl
  case hQ28 => exact fun _ _ _ h => h
  case hN28 => rfl
  case hw28 => rfl
  case hy28 => intro W hSw; have z0 := pw_cell_below (show Below _ _ W from hSw) q0; have z1 := pw_cell_below (show Below _ _ W from hSw) q1; have z2 := pw_cell_below (show Below _ _ W from hSw) q2; have z3 := pw_cell_below (show Below _ _ W from hSw) q3; go_simp; (try with_reducible rfl)
  simp only [Act.put, List.setIfInBounds_toArray, List.set_cons_zero, List.set_cons_succ]
  refine take_ (oi := ?oi29) (i := 12) (N := some 15) (v := ?v29) ?hi29 (by kernel_rfl) (by kernel_rfl) (by kernel_rfl) ?hQ29 ?hN29 (Or.inl ⟨?hw29, ?hy29⟩) hHeld ?rest29
  case hi29 => simp only [List.getElem?_toArray, List.getElem?_cons_zero, List.getElem?_cons_succ]; rfl
  case hQ29 => exact fun _ _ _ h => h
  case hN29 => rfl
  case hw29 => rfl
  case hy29 => intro W hSw; have z0 := pw_cell_below (show Below _ _ W from hSw) q0; have z1 := pw_cell_below (show Below _ _ W from hSw) q1; have z2 := pw_cell_below (show Below _ _ W from hSw) q2; have z3 := pw_cell_below (show Below _ _ W from hSw) q3; go_simp; (try with_reducible rfl)
  simp only [Act.put, List.setIfInBounds_toArray, List.set_cons_zero, List.set_cons_succ]
  refine take_ (oi := ?oi30) (i := 13) (N := some 16) (v := ?v30) ?hi30 (by kernel_rfl) (by kernel_rfl) (by kernel_rfl) ?hQ30 ?hN30 (Or.inl ⟨?hw30, ?hy30⟩) hHeld ?rest30
  case hi30 => simp only [List.getElem?_toArray, List.getElem?_cons_zero, List.getElem?_cons_succ]; rfl
  case hQ30 => exact fun _ _ _ h => h
  case hN30 => rfl
  case hw30 => rfl
  case hy30 => intro W hSw; have z0 := pw_cell_below (show Below _ _ W from hSw) q0; have z1 := pw_cell_below (show Below _ _ W from hSw) q1; have z2 := pw_cell_below (show Below _ _ W from hSw) q2; have z3 := pw_cell_below (show Below _ _ W from hSw) q3; go_simp; (try with_reducible rfl)
  simp only [Act.put, List.setIfInBounds_toArray, List.set_cons_zero, List.set_cons_succ]
  refine take_ (oi := ?oi31) (i := 14) (N := some 17) (v := ?v31) ?hi31 (by kernel_rfl) (by kernel_rfl) (by kernel_rfl) ?hQ31 ?hN31 (Or.inl ⟨?hw31, ?hy31⟩) hHeld ?rest31
  case hi31 => simp only [List.getElem?_toArray, List.getElem?_cons_zero, List.getElem?_cons_succ]; rfl
  case hQ31 => exact fun _ _ _ h => h
  case hN31 => rfl
  case hw31 => rfl
  case hy31 => intro W hSw; have z0 := pw_cell_below (show Below _ _ W from hSw) q0; have z1 := pw_cell_below (show Below _ _ W from hSw) q1; have z2 := pw_cell_below (show Below _ _ W from hSw) q2; have z3 := pw_cell_below (show Below _ _ W from hSw) q3; go_simp; (try with_reducible rfl)
  simp only [Act.put, List.setIfInBounds_toArray, List.set_cons_zero, List.set_cons_succ]
  refine take_ (oi := ?oi32) (i := 15) (N := some 2) (v := ?v32) ?hi32 (by kernel_rfl) (by kernel_rfl) (by kernel_rfl) ?hQ32 ?hN32 (Or.inl ⟨?hw32, ?hy32⟩) hHeld ?rest32
  case hi32 => simp only [List.getElem?_toArray, List.getElem?_cons_zero, List.getElem?_cons_succ]; rfl
  case hQ32 => exact fun _ _ _ h => h
  case hN32 => rfl
  case hw32 => rfl
  case hy32 => intro W hSw; have z0 := pw_cell_below (show Below _ _ W from hSw) q0; have z1 := pw_cell_below (show Below _ _ W from hSw) q1; have z2 := pw_cell_below (show Below _ _ W from hSw) q2; have z3 := pw_cell_below (show Below _ _ W from hSw) q3; go_simp; (try with_reducible rfl)
  simp only [Act.put, List.setIfInBounds_toArray, List.set_cons_zero, List.set_cons_succ]
  refine wpAnyH_done (by kernel_rfl) ?_ _
  refine NoPanic.normal ?_
  go_wp2
  go_ret
  exact ⟨⟨_, rfl⟩, hHeld⟩
end Go.Proofs.Ytkcffmnccjemiaa.GD
