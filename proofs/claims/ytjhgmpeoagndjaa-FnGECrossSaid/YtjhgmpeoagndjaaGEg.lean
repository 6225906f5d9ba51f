/-
  Contract of impl.GECross at small whole numbers. Condition: whole numbers from -1,000 to 1,000.
-/
import Derived.Test.YtjhgmpeoagndjaaGEd
import Derived.Test.YtjhgmpeoagndjaaGEf
namespace Go.Proofs.Ytjhgmpeoagndjaa.GE
open Go.RowKit Go.Proofs.YtjhgmpeoagndjaaW.PrintWords Go.Proofs.YtjhgmpeoagndjaaW.PrintLast Go.Proofs.YtjhgmpeoagndjaaW.PrintMore
open Go.Proofs.Ytjhgmpeoagndjaa.Flo
set_option linter.unusedVariables false
set_option linter.unusedSimpArgs false
set_option maxRecDepth 100000
set_option maxHeartbeats 4000000

theorem points_ok (A0 : Option Addr) (c0 : Nat) (l : List (Nat × Nat)) (hl : l.length ≤ 1000) (w : World) (hC : kQ.C w A0 l.length l) :
    Calls Try.prog 13 #[.slice A0 l.length c0, .int .u32 0] w fun e w' => ∃ v, e = .returned v ∧ kP.R 37 w' w.heap.size (fun _ => True) v (l.map (fun p => ((0 : Int), p))) ∧ Below w.heap.size w w' := by
  have hb := below_alloc (Below.refl w.heap.size w) (.cells #[.int .u32 0] 34)
  have H := Aside0.mk (turned_ok A0 c0 w.heap.size l hl (w.alloc (.cells #[.int .u32 0] 34)) (Kd.C_below hC hb) (heap_alloc_new _ _))
  have HB := Aside0.mk hb
  clear hC hb
  go_enter Try.func13, Try.ntmps13
  go_wp2_with fail
  refine (H.out).mono ?_
  rintro e w2 ⟨v, rfl, hr, hb⟩
  have HB2 := Aside0.mk (HB.out.trans (hb.mono (by simp)))
  have HR2 := Aside0.mk (Kd.R_lower hr (show w.heap.size ≤ (w.alloc (.cells #[.int .u32 0] 34)).heap.size by simp))
  obtain ⟨A5, c5, rfl⟩ := Kd.R_slice hr
  clear hr hb H HB
  rw [List.length_map] at HR2
  go_wp2_with fail
  go_ret
  exact ⟨_, rfl, HR2.out, HB2.out⟩
theorem at_P {w : World} {A : Option Addr} {n : Nat} {xs : List (Int × Nat × Nat)} (h : kP.C w A n xs) (i : Nat) (p : Int × Nat × Nat) (h1 : xs[i]? = some p) : ∃ ad, A = some ad ∧ w.cell? (ad.add (i * 3)) = some (.int .u32 p.1) ∧ w.cell? ⟨(ad.add (i * 3)).block, (ad.add (i * 3)).off + 1, none⟩ = some (.float .f64 p.2.1) ∧ w.cell? ⟨(ad.add (i * 3)).block, (ad.add (i * 3)).off + 2, none⟩ = some (.float .f64 p.2.2) := by
  have hlen : i < xs.length := (List.getElem?_eq_some_iff.1 h1).1
  obtain ⟨ad, c, e, hl, hK, hc0⟩ := Kd.C_get h ((0, 0, 0) : Int × Nat × Nat) (i : Int) (by omega) (by have := h.1; omega)
  have hc : ∀ j u, c[j]? = some u → w.cell? (ad.add (i * 3 + j)) = some u := hc0
  rw [Int.toNat_natCast, List.getD_eq_getElem?_getD, h1, Option.getD_some] at hK
  obtain ⟨_, _, rfl, rfl, ⟨_, _, rfl, rfl, rfl⟩⟩ := hK
  exact ⟨ad, e, hc 0 _ rfl, by rw [← add_field _ _ 1 (by omega)]; exact hc 1 _ rfl, by rw [← add_field _ _ 2 (by omega)]; exact hc 2 _ rfl⟩
theorem four_Q {w : World} {g : Nat} {a0 a1 b0 b1 c0 c1 d0 d1 : Nat} (h : w.heap[g]? = some (.cells #[.float .f64 a0, .float .f64 a1, .float .f64 b0, .float .f64 b1, .float .f64 c0, .float .f64 c1, .float .f64 d0, .float .f64 d1] 24 (0, 0))) : kQ.C w (some ⟨g, 0, none⟩) 4 [(a0, a1), (b0, b1), (c0, c1), (d0, d1)] := by
  have hc : ∀ j, w.cell? ⟨g, j, none⟩ = (#[.float .f64 a0, .float .f64 a1, .float .f64 b0, .float .f64 b1, .float .f64 c0, .float .f64 c1, .float .f64 d0, .float .f64 d1] : Array Value)[j]? := fun j => Lib.cell_of_heap h j
  refine ⟨rfl, by decide, fun _ => ⟨_, rfl, fun j p hp => ?_⟩⟩
  have hk : ∀ (x y : Nat) (o : Nat), w.cell? ⟨g, o, none⟩ = some (.float .f64 x) → w.cell? ⟨g, o + 1, none⟩ = some (.float .f64 y) → ∃ c : List Value, c.length = kQ.sz ∧ kQ.K w (x, y) c ∧ ∀ i u, c[i]? = some u → w.cell? ((⟨g, 0, none⟩ : Addr).add (o + i)) = some u := by
    intro x y o h1 h2
    refine ⟨[.float .f64 x, .float .f64 y], rfl, ⟨[.float .f64 x], [.float .f64 y], rfl, rfl, rfl⟩, fun i u hu => ?_⟩
    have ha : (⟨g, 0, none⟩ : Addr).add (o + i) = ⟨g, o + i, none⟩ := by unfold Addr.add; simp; try omega
    rw [ha]
    match i, hu with
    | 0, hu => cases hu; exact h1
    | 1, hu => cases hu; exact h2
  match j, hp with
  | 0, hp => cases hp; exact hk a0 a1 0 (hc 0) (hc 1)
  | 1, hp => cases hp; exact hk b0 b1 2 (hc 2) (hc 3)
  | 2, hp => cases hp; exact hk c0 c1 4 (hc 4) (hc 5)
  | 3, hp => cases hp; exact hk d0 d1 6 (hc 6) (hc 7)
theorem segs_ok (e1 e2 e3 e4 : Int) (a0 a1 b0 b1 c0 c1 d0 d1 : Nat) (ax ay bx b_y cx cy dx dy : Int) (h1 : Sm a0 ax) (h2 : Sm a1 ay) (h3 : Sm b0 bx) (h4 : Sm b1 b_y) (h5 : Sm c0 cx) (h6 : Sm c1 cy) (h7 : Sm d0 dx) (h8 : Sm d1 dy) (hs1 : ¬ (side ax ay bx b_y cx cy = 0 ∧ side ax ay bx b_y dx dy = 0)) (hs2 : ¬ (side cx cy dx dy ax ay = 0 ∧ side cx cy dx dy bx b_y = 0)) (w : World) :
    Calls Try.prog 14 #[tp e1 a0 a1, tp e2 b0 b1, tp e3 c0 c1, tp e4 d0 d1] w fun e w' => e = .returned (.bool (segI ax ay bx b_y cx cy dx dy)) ∧ Below w.heap.size w w' := by
  have H := Aside0.mk (fun W => lineSeg_ok e1 e2 e3 e4 a0 a1 b0 b1 c0 c1 d0 d1 ax ay bx b_y cx cy dx dy h1 h2 h3 h4 h5 h6 h7 h8 hs1 hs2 W)
  clear h1 h2 h3 h4 h5 h6 h7 h8 hs1 hs2
  go_enter Try.func14, Try.ntmps14
  go_wp2_with fail
  refine (H.out _).mono ?_
  rintro e w2 ⟨rfl, hb⟩
  have K := Aside0.mk (B4.first hb)
  clear hb
  go_wp2_with fail
  go_ret
  exact ⟨rfl, K.out.2.2.2.2⟩
/-- The box of the four points, behind their own. -/
theorem made_ok (a0 a1 b0 b1 c0 c1 d0 d1 : Nat) (w : World) :
    ((((((w.alloc (po a0 a1)).alloc (po b0 b1)).alloc (po c0 c1)).alloc (po d0 d1)).alloc (.cells #[.float .f64 a0, .float .f64 a1, .float .f64 b0, .float .f64 b1, .float .f64 c0, .float .f64 c1, .float .f64 d0, .float .f64 d1] 24)).heap[w.heap.size + 4]? = some (.cells #[.float .f64 a0, .float .f64 a1, .float .f64 b0, .float .f64 b1, .float .f64 c0, .float .f64 c1, .float .f64 d0, .float .f64 d1] 24 (0, 0))) ∧
    Below w.heap.size w (((((w.alloc (po a0 a1)).alloc (po b0 b1)).alloc (po c0 c1)).alloc (po d0 d1)).alloc (.cells #[.float .f64 a0, .float .f64 a1, .float .f64 b0, .float .f64 b1, .float .f64 c0, .float .f64 c1, .float .f64 d0, .float .f64 d1] 24)) := by
  have h := heap_alloc_new ((((w.alloc (po a0 a1)).alloc (po b0 b1)).alloc (po c0 c1)).alloc (po d0 d1)) (.cells #[.float .f64 a0, .float .f64 a1, .float .f64 b0, .float .f64 b1, .float .f64 c0, .float .f64 c1, .float .f64 d0, .float .f64 d1] 24)
  rw [show ((((w.alloc (po a0 a1)).alloc (po b0 b1)).alloc (po c0 c1)).alloc (po d0 d1)).heap.size = w.heap.size + 4 by simp] at h
  exact ⟨h, by repeat (first | (with_reducible exact Below.refl _ _) | (with_reducible apply below_alloc))⟩
theorem implCross_ok (a0 a1 b0 b1 c0 c1 d0 d1 : Nat) (ax ay bx b_y cx cy dx dy : Int) (h1 : Sm a0 ax) (h2 : Sm a1 ay) (h3 : Sm b0 bx) (h4 : Sm b1 b_y) (h5 : Sm c0 cx) (h6 : Sm c1 cy) (h7 : Sm d0 dx) (h8 : Sm d1 dy) (hs1 : ¬ (side ax ay bx b_y cx cy = 0 ∧ side ax ay bx b_y dx dy = 0)) (hs2 : ¬ (side cx cy dx dy ax ay = 0 ∧ side cx cy dx dy bx b_y = 0)) (w : World) :
    Calls Try.prog 6 #[pt a0 a1, pt b0 b1, pt c0 c1, pt d0 d1] w fun e w' => e = .returned (.bool (segI ax ay bx b_y cx cy dx dy)) ∧ Below w.heap.size w w' := by
  have H := Aside0.mk (fun W => segs_ok 0 0 0 0 a0 a1 b0 b1 c0 c1 d0 d1 ax ay bx b_y cx cy dx dy h1 h2 h3 h4 h5 h6 h7 h8 hs1 hs2 W)
  obtain ⟨hh, hb⟩ := made_ok a0 a1 b0 b1 c0 c1 d0 d1 w
  have HP := Aside0.mk (fun c0' => points_ok _ c0' [(a0, a1), (b0, b1), (c0, c1), (d0, d1)] (by simp) _ (four_Q hh))
  have HB := Aside0.mk hb
  generalize segI ax ay bx b_y cx cy dx dy = r at *
  clear h1 h2 h3 h4 h5 h6 h7 h8 hs1 hs2 hh hb
  go_enter Try.func6, Try.ntmps6
  go_wp2_with fail
  refine (HP.out 4).mono ?_
  rintro e w2 ⟨v, rfl, hr, hb⟩
  have hb2 : Below w.heap.size w w2 := HB.out.trans (hb.mono HB.out.size)
  obtain ⟨g, c, rfl, -⟩ := Kd.R_form hr (by simp)
  obtain ⟨A, c', he, hle, hC⟩ := Kd.R_reads hr
  cases he
  obtain ⟨ad, he, x0, x1, x2⟩ := at_P hC 0 _ rfl
  cases he
  obtain ⟨ad, he, y0, y1, y2⟩ := at_P hC 1 _ rfl
  cases he
  obtain ⟨ad, he, z0, z1, z2⟩ := at_P hC 2 _ rfl
  cases he
  obtain ⟨ad, he, u0, u1, u2⟩ := at_P hC 3 _ rfl
  cases he
  have kb := hb2
  have f0 : w2.cell? ⟨g, 0, none⟩ = some (.int .u32 0) := x0
  have f1 : w2.cell? ⟨g, 1, none⟩ = some (.float .f64 a0) := x1
  have f2 : w2.cell? ⟨g, 2, none⟩ = some (.float .f64 a1) := x2
  have f3 : w2.cell? ⟨g, 3, none⟩ = some (.int .u32 0) := y0
  have f4 : w2.cell? ⟨g, 4, none⟩ = some (.float .f64 b0) := y1
  have f5 : w2.cell? ⟨g, 5, none⟩ = some (.float .f64 b1) := y2
  have f6 : w2.cell? ⟨g, 6, none⟩ = some (.int .u32 0) := z0
  have f7 : w2.cell? ⟨g, 7, none⟩ = some (.float .f64 c0) := z1
  have f8 : w2.cell? ⟨g, 8, none⟩ = some (.float .f64 c1) := z2
  have f9 : w2.cell? ⟨g, 9, none⟩ = some (.int .u32 0) := u0
  have f10 : w2.cell? ⟨g, 10, none⟩ = some (.float .f64 d0) := u1
  have f11 : w2.cell? ⟨g, 11, none⟩ = some (.float .f64 d1) := u2
  clear hC hr hb HP HB x0 x1 x2 y0 y1 y2 z0 z1 z2 u0 u1 u2 hle hb2
  simp only [List.length_map, List.length_cons, List.length_nil, Nat.zero_add, Nat.reduceAdd]
  go_wp2
  refine wp_region_noPanic ?_
  refine wp_region_held_drew (S := fun W => W.cell? ⟨g, 0, none⟩ = some (.int .u32 0) ∧ W.cell? ⟨g, 1, none⟩ = some (.float .f64 a0) ∧ W.cell? ⟨g, 2, none⟩ = some (.float .f64 a1) ∧ W.cell? ⟨g, 3, none⟩ = some (.int .u32 0) ∧ W.cell? ⟨g, 4, none⟩ = some (.float .f64 b0) ∧ W.cell? ⟨g, 5, none⟩ = some (.float .f64 b1) ∧ W.cell? ⟨g, 6, none⟩ = some (.int .u32 0) ∧ W.cell? ⟨g, 7, none⟩ = some (.float .f64 c0) ∧ W.cell? ⟨g, 8, none⟩ = some (.float .f64 c1) ∧ W.cell? ⟨g, 9, none⟩ = some (.int .u32 0) ∧ W.cell? ⟨g, 10, none⟩ = some (.float .f64 d0) ∧ W.cell? ⟨g, 11, none⟩ = some (.float .f64 d1) ∧ Below w.heap.size w W) (by kernel_rfl) ?_ (fun hHeld => ?_)
  · (first | (go_split_ands; refine ⟨?_, ?_, ?_, ?_, ?_, ?_, ?_, ?_, ?_, ?_, ?_, ?_, ?_⟩ <;> assumption) | (go_split_ands; exact ⟨pw_cell_below hb (by assumption), pw_cell_below hb (by assumption), pw_cell_below hb (by assumption), pw_cell_below hb (by assumption), pw_cell_below hb (by assumption), pw_cell_below hb (by assumption), pw_cell_below hb (by assumption), pw_cell_below hb (by assumption), pw_cell_below hb (by assumption), pw_cell_below hb (by assumption), pw_cell_below hb (by assumption), pw_cell_below hb (by assumption), below_step (by assumption) hb⟩) | (refine ⟨?_, ?_, ?_, ?_, ?_, ?_, ?_, ?_, ?_, ?_, ?_, ?_, ?_⟩; (iterate 12 (focus (first | assumption | (simp [go_sem]; done) | (simp [go_sem, *]; done)))); repeat (first | (with_reducible exact kb) | (with_reducible apply below_drew) | (with_reducible apply below_alloc))))
  refine take_ (oi := ?oi1) (i := 0) (N := some 16) (v := ?v1) ?hi1 (by kernel_rfl) (by kernel_rfl) (by kernel_rfl) ?hQ1 ?hN1 (Or.inl ⟨?hw1, ?hy1⟩) (by assumption) ?rest1
  case hi1 => simp only [List.getElem?_toArray, List.getElem?_cons_zero, List.getElem?_cons_succ]; rfl
  case hQ1 => exact fun _ _ _ h => h
  case hN1 => rfl
  case hw1 => rfl
  case hy1 => intro W hSw; (try dsimp only at hSw); go_split_ands; go_simp; (try with_reducible rfl)
  simp only [Act.put, List.setIfInBounds_toArray, List.set_cons_zero, List.set_cons_succ]
  refine take_ (oi := ?oi2) (i := 1) (N := some 17) (v := ?v2) ?hi2 (by kernel_rfl) (by kernel_rfl) (by kernel_rfl) ?hQ2 ?hN2 (Or.inl ⟨?hw2, ?hy2⟩) (by assumption) ?rest2
  case hi2 => simp only [List.getElem?_toArray, List.getElem?_cons_zero, List.getElem?_cons_succ]; rfl
  case hQ2 => exact fun _ _ _ h => h
  case hN2 => rfl
  case hw2 => rfl
  case hy2 => intro W hSw; (try dsimp only at hSw); go_split_ands; go_simp; (try with_reducible rfl)
  simp only [Act.put, List.setIfInBounds_toArray, List.set_cons_zero, List.set_cons_succ]
  refine take_ (oi := ?oi3) (i := 2) (N := some 18) (v := ?v3) ?hi3 (by kernel_rfl) (by kernel_rfl) (by kernel_rfl) ?hQ3 ?hN3 (Or.inl ⟨?hw3, ?hy3⟩) (by assumption) ?rest3
  case hi3 => simp only [List.getElem?_toArray, List.getElem?_cons_zero, List.getElem?_cons_succ]; rfl
  case hQ3 => exact fun _ _ _ h => h
  case hN3 => rfl
  case hw3 => rfl
  case hy3 => intro W hSw; (try dsimp only at hSw); go_split_ands; go_simp; (try with_reducible rfl)
  simp only [Act.put, List.setIfInBounds_toArray, List.set_cons_zero, List.set_cons_succ]
  refine take_ (oi := ?oi4) (i := 3) (N := some 19) (v := ?v4) ?hi4 (by kernel_rfl) (by kernel_rfl) (by kernel_rfl) ?hQ4 ?hN4 (Or.inl ⟨?hw4, ?hy4⟩) (by assumption) ?rest4
  case hi4 => simp only [List.getElem?_toArray, List.getElem?_cons_zero, List.getElem?_cons_succ]; rfl
  case hQ4 => exact fun _ _ _ h => h
  case hN4 => rfl
  case hw4 => rfl
  case hy4 => intro W hSw; (try dsimp only at hSw); go_split_ands; go_simp; (try with_reducible rfl)
  simp only [Act.put, List.setIfInBounds_toArray, List.set_cons_zero, List.set_cons_succ]
  refine take_ (oi := ?oi5) (i := 4) (N := some 20) (v := ?v5) ?hi5 (by kernel_rfl) (by kernel_rfl) (by kernel_rfl) ?hQ5 ?hN5 (Or.inl ⟨?hw5, ?hy5⟩) (by assumption) ?rest5
  case hi5 => simp only [List.getElem?_toArray, List.getElem?_cons_zero, List.getElem?_cons_succ]; rfl
  case hQ5 => exact fun _ _ _ h => h
  case hN5 => rfl
  case hw5 => rfl
  case hy5 => intro W hSw; (try dsimp only at hSw); go_split_ands; go_simp; (try with_reducible rfl)
  simp only [Act.put, List.setIfInBounds_toArray, List.set_cons_zero, List.set_cons_succ]
  refine take_ (oi := ?oi6) (i := 5) (N := some 21) (v := ?v6) ?hi6 (by kernel_rfl) (by kernel_rfl) (by kernel_rfl) ?hQ6 ?hN6 (Or.inl ⟨?hw6, ?hy6⟩) (by assumption) ?rest6
  case hi6 => simp only [List.getElem?_toArray, List.getElem?_cons_zero, List.getElem?_cons_succ]; rfl
  case hQ6 => exact fun _ _ _ h => h
  case hN6 => rfl
  case hw6 => rfl
  case hy6 => intro W hSw; (try dsimp only at hSw); go_split_ands; go_simp; (try with_reducible rfl)
  simp only [Act.put, List.setIfInBounds_toArray, List.set_cons_zero, List.set_cons_succ]
  refine take_ (oi := ?oi7) (i := 6) (N := some 22) (v := ?v7) ?hi7 (by kernel_rfl) (by kernel_rfl) (by kernel_rfl) ?hQ7 ?hN7 (Or.inl ⟨?hw7, ?hy7⟩) (by assumption) ?rest7
  case hi7 => simp only [List.getElem?_toArray, List.getElem?_cons_zero, List.getElem?_cons_succ]; rfl
  case hQ7 => exact fun _ _ _ h => h
  case hN7 => rfl
  case hw7 => rfl
  case hy7 => intro W hSw; (try dsimp only at hSw); go_split_ands; go_simp; (try with_reducible rfl)
  simp only [Act.put, List.setIfInBounds_toArray, List.set_cons_zero, List.set_cons_succ]
  refine take_ (oi := ?oi8) (i := 7) (N := some 23) (v := ?v8) ?hi8 (by kernel_rfl) (by kernel_rfl) (by kernel_rfl) ?hQ8 ?hN8 (Or.inl ⟨?hw8, ?hy8⟩) (by assumption) ?rest8
  case hi8 => simp only [List.getElem?_toArray, List.getElem?_cons_zero, List.getElem?_cons_succ]; rfl
  case hQ8 => exact fun _ _ _ h => h
  case hN8 => rfl
  case hw8 => rfl
  case hy8 => intro W hSw; (try dsimp only at hSw); go_split_ands; go_simp; (try with_reducible rfl)
  simp only [Act.put, List.setIfInBounds_toArray, List.set_cons_zero, List.set_cons_succ]
  refine take_ (oi := ?oi9) (i := 8) (N := some 24) (v := ?v9) ?hi9 (by kernel_rfl) (by kernel_rfl) (by kernel_rfl) ?hQ9 ?hN9 (Or.inl ⟨?hw9, ?hy9⟩) (by assumption) ?rest9
  case hi9 => simp only [List.getElem?_toArray, List.getElem?_cons_zero, List.getElem?_cons_succ]; rfl
  case hQ9 => exact fun _ _ _ h => h
  case hN9 => rfl
  case hw9 => rfl
  case hy9 => intro W hSw; (try dsimp only at hSw); go_split_ands; go_simp; (try with_reducible rfl)
  simp only [Act.put, List.setIfInBounds_toArray, List.set_cons_zero, List.set_cons_succ]
  refine take_ (oi := ?oi10) (i := 9) (N := some 25) (v := ?v10) ?hi10 (by kernel_rfl) (by kernel_rfl) (by kernel_rfl) ?hQ10 ?hN10 (Or.inl ⟨?hw10, ?hy10⟩) (by assumption) ?rest10
  case hi10 => simp only [List.getElem?_toArray, List.getElem?_cons_zero, List.getElem?_cons_succ]; rfl
  case hQ10 => exact fun _ _ _ h => h
  case hN10 => rfl
  case hw10 => rfl
  case hy10 => intro W hSw; (try dsimp only at hSw); go_split_ands; go_simp; (try with_reducible rfl)
  simp only [Act.put, List.setIfInBounds_toArray, List.set_cons_zero, List.set_cons_succ]
  refine take_ (oi := ?oi11) (i := 10) (N := some 26) (v := ?v11) ?hi11 (by kernel_rfl) (by kernel_rfl) (by kernel_rfl) ?hQ11 ?hN11 (Or.inl ⟨?hw11, ?hy11⟩) (by assumption) ?rest11
  case hi11 => simp only [List.getElem?_toArray, List.getElem?_cons_zero, List.getElem?_cons_succ]; rfl
  case hQ11 => exact fun _ _ _ h => h
  case hN11 => rfl
  case hw11 => rfl
  case hy11 => intro W hSw; (try dsimp only at hSw); go_split_ands; go_simp; (try with_reducible rfl)
  simp only [Act.put, List.setIfInBounds_toArray, List.set_cons_zero, List.set_cons_succ]
  refine take_ (oi := ?oi12) (i := 11) (N := some 27) (v := ?v12) ?hi12 (by kernel_rfl) (by kernel_rfl) (by kernel_rfl) ?hQ12 ?hN12 (Or.inl ⟨?hw12, ?hy12⟩) (by assumption) ?rest12
  case hi12 => simp only [List.getElem?_toArray, List.getElem?_cons_zero, List.getElem?_cons_succ]; rfl
  case hQ12 => exact fun _ _ _ h => h
  case hN12 => rfl
  case hw12 => rfl
  case hy12 => intro W hSw; (try dsimp only at hSw); go_split_ands; go_simp; (try with_reducible rfl)
  simp only [Act.put, List.setIfInBounds_toArray, List.set_cons_zero, List.set_cons_succ]
  refine wpAnyH_ready (rs := [12]) (by kernel_rfl) (by simp) ?_
  refine AllReadyH.cons (o := ?oi13) ?hi13 (fun K hK => ?step13) AllReadyH.nil
  case hi13 => simp only [List.getElem?_toArray, List.getElem?_cons_zero, List.getElem?_cons_succ]; rfl
  refine goes_ (N := some 28) Try.func14 (by kernel_rfl) rfl #[tp 0 a0 a1, tp 0 b0 b1, tp 0 c0 c1, tp 0 d0 d1] (by rfl) rfl rfl (by (try simp only [List.map_toArray, List.map_cons, List.map_nil]); rfl) ?_
  refine (H.out _).mono ?_
  rintro e v12 ⟨rfl, hb⟩
  refine ⟨_, rfl, ?_⟩
  refine hK.out _ _ ?_ (fun hHeld => ?_)
  · (first | (go_split_ands; refine ⟨?_, ?_, ?_, ?_, ?_, ?_, ?_, ?_, ?_, ?_, ?_, ?_, ?_⟩ <;> assumption) | (go_split_ands; exact ⟨pw_cell_below hb (by assumption), pw_cell_below hb (by assumption), pw_cell_below hb (by assumption), pw_cell_below hb (by assumption), pw_cell_below hb (by assumption), pw_cell_below hb (by assumption), pw_cell_below hb (by assumption), pw_cell_below hb (by assumption), pw_cell_below hb (by assumption), pw_cell_below hb (by assumption), pw_cell_below hb (by assumption), pw_cell_below hb (by assumption), below_step (by assumption) hb⟩) | (refine ⟨?_, ?_, ?_, ?_, ?_, ?_, ?_, ?_, ?_, ?_, ?_, ?_, ?_⟩; (iterate 12 (focus (first | assumption | (simp [go_sem]; done) | (simp [go_sem, *]; done)))); repeat (first | (with_reducible exact kb) | (with_reducible apply below_drew) | (with_reducible apply below_alloc))))
  clear hK K
  simp only [Act.put, List.setIfInBounds_toArray, List.set_cons_zero, List.set_cons_succ]
  refine take_ (oi := ?oi14) (i := 13) (N := some 8) (v := ?v14) ?hi14 (by kernel_rfl) (by kernel_rfl) (by kernel_rfl) ?hQ14 ?hN14 (Or.inl ⟨?hw14, ?hy14⟩) (by assumption) ?rest14
  case hi14 => simp only [List.getElem?_toArray, List.getElem?_cons_zero, List.getElem?_cons_succ]; rfl
  case hQ14 => exact fun _ _ _ h => h
  case hN14 => rfl
  case hw14 => rfl
  case hy14 => intro W hSw; (try dsimp only at hSw); go_split_ands; go_simp; (try with_reducible rfl)
  simp only [Act.put, List.setIfInBounds_toArray, List.set_cons_zero, List.set_cons_succ]
  refine wpAnyH_done (by kernel_rfl) ?_ _
  refine NoPanic.normal ?_
  go_wp2
  go_ret
  go_split_ands
  exact ⟨rfl, by assumption⟩
end Go.Proofs.Ytjhgmpeoagndjaa.GE
