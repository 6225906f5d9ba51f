/-
  Contract of isPointWithinClosedLineString: lines along the axes. Condition: small whole numbers.
-/
import Derived.Test.YtjhgmpeoagndjaaGreatGWm
namespace Go.Proofs.YtjhgmpeoagndjaaGreat.GE
open Go.RowKit Go.Proofs.YtjhgmpeoagndjaaGreatW.PrintWords Go.Proofs.YtjhgmpeoagndjaaGreatW.PrintLast Go.Proofs.YtjhgmpeoagndjaaGreatW.PrintMore
open Go.Proofs.YtjhgmpeoagndjaaGreat.Flo
set_option linter.unusedVariables false
set_option linter.unusedSimpArgs false
set_option maxRecDepth 100000
set_option maxHeartbeats 4000000

theorem two_plain (w : World) (o1 o2 : Obj) : ((w.alloc o1).alloc o2).heap[w.heap.size]? = some o1 ∧ ((w.alloc o1).alloc o2).heap[w.heap.size + 1]? = some o2 := two_made w o1 o2
theorem set3 {w : World} {g : Nat} {s s' : Int} {a b a' b' : Nat} (h : w.heap[g]? = some (tb s a b)) : (((w.setCell ⟨g, 0, none⟩ (.int .u32 s')).setCell ⟨g, 1, none⟩ (.float .f64 a')).setCell ⟨g, 2, none⟩ (.float .f64 b')).heap[g]? = some (tb s' a' b') := by
  simp [World.setCell, Array.getElem?_modify, h]
theorem within_ok (s : Int) (p0 p1 gp c : Nat) (x : Int × Int) (l : List (Nat × Nat)) (L : List (Int × Int)) (hI : Is l L) (hp : Sw p0 x.1 ∧ Sw p1 x.2) (hax : ∀ k, k + 1 < l.length → (L.getD k (0, 0)).2 = (L.getD (k + 1) (0, 0)).2 ∨ (L.getD k (0, 0)).1 = (L.getD (k + 1) (0, 0)).1) (hl : l.length ≤ 1000) (h0 : 0 < l.length) (w : World) (hP : Pts w gp l) :
    Calls Tryz.prog 48 #[tp s p0 p1, .agg #[.int .u32 0, .slice (some ⟨gp, 0, none⟩) l.length c]] w fun e w' => e = .returned (.bool (crB x L (l.length - 1))) ∧ Below w.heap.size w w' := by
  have HP := Aside0.mk hP
  have HI := Aside0.mk hI
  have Hp := Aside0.mk hp
  have HX := Aside0.mk hax
  clear hP hI hp hax
  go_enter Tryz.func48, Tryz.ntmps48
  go_wp2
  go_loopw [5, 6] (fun t5 t6 wr => ∃ k : Nat, t6 = .int .i64 ((k : Int) + 1) ∧ t5 = .bool (crB x L k) ∧ k + 1 ≤ l.length ∧ Aside0 (Below w.heap.size w wr) ∧ wr.heap[w.heap.size]? = some (.cells #[.int .u32 s, .float .f64 p0, .float .f64 p1] 50 (0, 0)) ∧ wr.heap[w.heap.size + 1]? = some (.cells #[.int .u32 0, .slice (some ⟨gp, 0, none⟩) l.length c] 54 (0, 0))) (fun _ t6 _ => l.length + 1 - (intOf t6).toNat)
  case atStart =>
    obtain ⟨h1, h2⟩ := two_made w (tb s p0 p1) (.cells #[.int .u32 0, .slice (some ⟨gp, 0, none⟩) l.length c] 54)
    exact ⟨0, rfl, rfl, by omega, ⟨by repeat (first | (with_reducible exact Below.refl _ _) | (with_reducible apply below_alloc))⟩, h1, h2⟩
  case round =>
    obtain ⟨k, rfl, rfl, hk, HB, f1, f2⟩ := hrel
    have g1 : wr.cell? ⟨w.heap.size + 1, 1, none⟩ = some (.slice (some ⟨gp, 0, none⟩) l.length c) := by rw [Lib.cell_of_heap f2]; rfl
    have g0 : wr.cell? ⟨w.heap.size + 1, 0, none⟩ = some (.int .u32 0) := by rw [Lib.cell_of_heap f2]; rfl
    rcases Nat.lt_or_ge (k + 1) l.length with hlt | hge
    · obtain ⟨a, ha⟩ : ∃ a, l[k]? = some a := ⟨_, List.getElem?_eq_getElem (by omega)⟩
      obtain ⟨b, hb⟩ : ∃ b, l[k + 1]? = some b := ⟨_, List.getElem?_eq_getElem hlt⟩
      obtain ⟨ad, he, x0, x1, x2⟩ := at_P (HP.out.keep' HB.out) k (0, a) (by rw [List.getElem?_map, ha]; rfl)
      cases he
      obtain ⟨ad, he, y0, y1, y2⟩ := at_P (HP.out.keep' HB.out) (k + 1) (0, b) (by rw [List.getElem?_map, hb]; rfl)
      cases he
      rw [add_plain] at x0 x1 x2 y0 y1 y2
      simp only at x0 x1 x2 y0 y1 y2
      have w1 : IntKind.i64.wrap (k : Int) = (k : Int) := IntWalk.i64_in _ (by omega)
      have w2 : (0 : Int) ≤ (k : Int) ∧ (k : Int) < (l.length : Int) := by omega
      have w3 : (0 : Int) ≤ (k : Int) + 1 ∧ (k : Int) + 1 < (l.length : Int) := by omega
      have w4 : ((k : Int) + 1).toNat = k + 1 := by omega
      obtain ⟨i1, i2⟩ := HI.out.at ha
      obtain ⟨i3, i4⟩ := HI.out.at hb
      clear ha hb
      have hHit : hitB x L k = hitB x L k := rfl
      conv at hHit => lhs; unfold hitB
      have hAx := HX.out k hlt
      generalize hA : L.getD k (0, 0) = A at *
      generalize hB' : L.getD (k + 1) (0, 0) = B at *
      clear hA hB'
      obtain ⟨ax, ay⟩ := A
      obtain ⟨bx, b_y⟩ := B
      simp only at i1 i2 i3 i4 hHit hAx
      have E0 := eq_b i2.1 i4.1
      have Q1 := pick_min i2.1 i4.1
      have Q2 := pick_max i2.1 i4.1
      have Q3 := pick_max i1.1 i3.1
      have E1 := le_b Hp.out.2.1 Q1
      have E2 := gt_b Hp.out.2.1 Q2
      have E3 := ge_b Hp.out.1.1 Q3
      have M1 := Aside0.mk (fun W => min_ok a.2 b.2 W)
      have M2 := Aside0.mk (fun W => max_ok a.2 b.2 W)
      have M3 := Aside0.mk (fun W => max_ok a.1 b.1 W)
      have SQ : Sw (pickB false .gt a.1 b.1) (max ax bx) := ⟨Q3, by have := i1.2; have := i3.2; omega, by have := i1.2; have := i3.2; omega⟩
      have CR := Aside0.mk (fun q1 q2 W => cross_ok 0 0 s 0 a.1 a.2 b.1 b.2 p0 p1 (pickB false .gt a.1 b.1) p1 _ _ _ _ _ _ _ _ i1 i2 i3 i4 Hp.out.1 Hp.out.2 SQ Hp.out.2 q1 q2 W)
      have AX := Aside0.mk (fun h1 h2 h3 h4 h5 => axes_cross (ax := ax) (ay := ay) (bx := bx) (b_y := b_y) (px := x.1) (py := x.2) h1 h2 h3 h4 h5)
      clear Q1 Q2 Q3 SQ i1 i2 i3 i4
      obtain ⟨r1, R1⟩ : ∃ r, pickB true .lt a.2 b.2 = r := ⟨_, rfl⟩
      obtain ⟨r2, R2⟩ : ∃ r, pickB false .gt a.2 b.2 = r := ⟨_, rfl⟩
      obtain ⟨r3, R3⟩ : ∃ r, pickB false .gt a.1 b.1 = r := ⟨_, rfl⟩
      rw [R1] at E1 M1
      rw [R2] at E2 M2
      rw [R3] at E3 M3 CR
      clear R1 R2 R3
      have N0 := below_alloc (Below.refl wr.heap.size wr) (tb 0 a.1 a.2)
      have n1 := pw_cell_below N0 g1
      have n2 := pw_cell_below N0 y0
      have n3 := pw_cell_below N0 y1
      have n4 := pw_cell_below N0 y2
      clear N0
      by_cases c0 : ay = b_y
      · have E0' := E0.trans (decide_eq_true c0)
        have HBz := Aside0.mk (HB.out.trans ((below_alloc (below_alloc (Below.refl wr.heap.size wr) (tb 0 a.1 a.2)) (tb 0 b.1 b.2)).mono HB.out.size))
        have f1z := ((below_alloc (below_alloc (Below.refl wr.heap.size wr) (tb 0 a.1 a.2)) (tb 0 b.1 b.2)).block _ (blk_lt f1)).trans f1
        have f2z := ((below_alloc (below_alloc (Below.refl wr.heap.size wr) (tb 0 a.1 a.2)) (tb 0 b.1 b.2)).block _ (blk_lt f2)).trans f2
        clear E0 E1 E2 E3
        go_wp2
        go_roundw
        case rel => exact ⟨k + 1, by go_num, by rw [cr_no (hHit.symm.trans (by rw [show decide (ay = b_y) = true from decide_eq_true (by omega)]; rfl))], by omega, HBz, f1z, f2z⟩
        case measure => simp [intOf]; omega
      · have E0' := E0.trans (decide_eq_false c0)
        have D0 := Aside0.mk c0
        have hVV := two_plain wr (tb 0 a.1 a.2) (tb 0 b.1 b.2)
        have hHeld := below_alloc (below_alloc (Below.refl wr.heap.size wr) (tb 0 a.1 a.2)) (tb 0 b.1 b.2)
        clear E0
        go_wp2
        generalize (wr.alloc (tb 0 a.1 a.2)).alloc (tb 0 b.1 b.2) = V at *
        obtain ⟨hA, hB⟩ := hVV
        have f1V := (hHeld.block _ (blk_lt f1)).trans f1
        have f2V := (hHeld.block _ (blk_lt f2)).trans f2
        have HBV := Aside0.mk (below_step HB.out hHeld)
        clear f1 f2 HB g1 g0 x0 x1 x2 y0 y1 y2 hHeld n1 n2 n3 n4
        obtain ⟨q0, q1, q2⟩ := tpc hA
        obtain ⟨q3, q4, q5⟩ := tpc hB
        obtain ⟨q6, q7, q8⟩ := tpc f1V
        by_cases c1 : x.2 ≤ min ay b_y
        · have E1' := E1.trans (decide_eq_true c1)
          clear E1
          refine wp_region_noPanic ?_
          refine wp_region_held_drew (S := fun W => Below V.heap.size V W) (by kernel_rfl) ?_ (fun hHeld => ?_)
          · exact below_drew (Below.refl _ _)
          refine take_ (oi := ?oi1) (i := 0) (N := some 33) (v := ?v1) ?hi1 (by kernel_rfl) (by kernel_rfl) (by kernel_rfl) ?hQ1 ?hN1 (Or.inl ⟨?hw1, ?hy1⟩) hHeld ?rest1
          case hi1 => simp only [List.getElem?_toArray, List.getElem?_cons_zero, List.getElem?_cons_succ]; rfl
          case hQ1 => exact fun _ _ _ h => h
          case hN1 => rfl
          case hw1 => rfl
          case hy1 => intro W hSw; have z0 := pw_cell_below (show Below _ _ W from hSw) q1; have z1 := pw_cell_below (show Below _ _ W from hSw) q2; have z2 := pw_cell_below (show Below _ _ W from hSw) q4; have z3 := pw_cell_below (show Below _ _ W from hSw) q5; have z4 := pw_cell_below (show Below _ _ W from hSw) q7; have z5 := pw_cell_below (show Below _ _ W from hSw) q8; go_simp; (try with_reducible rfl)
          simp only [Act.put, List.setIfInBounds_toArray, List.set_cons_zero, List.set_cons_succ]
          refine take_ (oi := ?oi2) (i := 1) (N := some 34) (v := ?v2) ?hi2 (by kernel_rfl) (by kernel_rfl) (by kernel_rfl) ?hQ2 ?hN2 (Or.inl ⟨?hw2, ?hy2⟩) hHeld ?rest2
          case hi2 => simp only [List.getElem?_toArray, List.getElem?_cons_zero, List.getElem?_cons_succ]; rfl
          case hQ2 => exact fun _ _ _ h => h
          case hN2 => rfl
          case hw2 => rfl
          case hy2 => intro W hSw; have z0 := pw_cell_below (show Below _ _ W from hSw) q1; have z1 := pw_cell_below (show Below _ _ W from hSw) q2; have z2 := pw_cell_below (show Below _ _ W from hSw) q4; have z3 := pw_cell_below (show Below _ _ W from hSw) q5; have z4 := pw_cell_below (show Below _ _ W from hSw) q7; have z5 := pw_cell_below (show Below _ _ W from hSw) q8; go_simp; (try with_reducible rfl)
          simp only [Act.put, List.setIfInBounds_toArray, List.set_cons_zero, List.set_cons_succ]
          refine take_ (oi := ?oi3) (i := 2) (N := some 35) (v := ?v3) ?hi3 (by kernel_rfl) (by kernel_rfl) (by kernel_rfl) ?hQ3 ?hN3 (Or.inl ⟨?hw3, ?hy3⟩) hHeld ?rest3
          case hi3 => simp only [List.getElem?_toArray, List.getElem?_cons_zero, List.getElem?_cons_succ]; rfl
          case hQ3 => exact fun _ _ _ h => h
          case hN3 => rfl
          case hw3 => rfl
          case hy3 => intro W hSw; have z0 := pw_cell_below (show Below _ _ W from hSw) q1; have z1 := pw_cell_below (show Below _ _ W from hSw) q2; have z2 := pw_cell_below (show Below _ _ W from hSw) q4; have z3 := pw_cell_below (show Below _ _ W from hSw) q5; have z4 := pw_cell_below (show Below _ _ W from hSw) q7; have z5 := pw_cell_below (show Below _ _ W from hSw) q8; go_simp; (try with_reducible rfl)
          simp only [Act.put, List.setIfInBounds_toArray, List.set_cons_zero, List.set_cons_succ]
          refine take_ (oi := ?oi4) (i := 3) (N := some 36) (v := ?v4) ?hi4 (by kernel_rfl) (by kernel_rfl) (by kernel_rfl) ?hQ4 ?hN4 (Or.inl ⟨?hw4, ?hy4⟩) hHeld ?rest4
          case hi4 => simp only [List.getElem?_toArray, List.getElem?_cons_zero, List.getElem?_cons_succ]; rfl
          case hQ4 => exact fun _ _ _ h => h
          case hN4 => rfl
          case hw4 => rfl
          case hy4 => intro W hSw; have z0 := pw_cell_below (show Below _ _ W from hSw) q1; have z1 := pw_cell_below (show Below _ _ W from hSw) q2; have z2 := pw_cell_below (show Below _ _ W from hSw) q4; have z3 := pw_cell_below (show Below _ _ W from hSw) q5; have z4 := pw_cell_below (show Below _ _ W from hSw) q7; have z5 := pw_cell_below (show Below _ _ W from hSw) q8; go_simp; (try with_reducible rfl)
          simp only [Act.put, List.setIfInBounds_toArray, List.set_cons_zero, List.set_cons_succ]
          refine take_ (oi := ?oi5) (i := 4) (N := some 37) (v := ?v5) ?hi5 (by kernel_rfl) (by kernel_rfl) (by kernel_rfl) ?hQ5 ?hN5 (Or.inl ⟨?hw5, ?hy5⟩) hHeld ?rest5
          case hi5 => simp only [List.getElem?_toArray, List.getElem?_cons_zero, List.getElem?_cons_succ]; rfl
          case hQ5 => exact fun _ _ _ h => h
          case hN5 => rfl
          case hw5 => rfl
          case hy5 => intro W hSw; have z0 := pw_cell_below (show Below _ _ W from hSw) q1; have z1 := pw_cell_below (show Below _ _ W from hSw) q2; have z2 := pw_cell_below (show Below _ _ W from hSw) q4; have z3 := pw_cell_below (show Below _ _ W from hSw) q5; have z4 := pw_cell_below (show Below _ _ W from hSw) q7; have z5 := pw_cell_below (show Below _ _ W from hSw) q8; go_simp; (try with_reducible rfl)
          simp only [Act.put, List.setIfInBounds_toArray, List.set_cons_zero, List.set_cons_succ]
          refine take_ (oi := ?oi6) (i := 5) (N := some 38) (v := ?v6) ?hi6 (by kernel_rfl) (by kernel_rfl) (by kernel_rfl) ?hQ6 ?hN6 (Or.inl ⟨?hw6, ?hy6⟩) hHeld ?rest6
          case hi6 => simp only [List.getElem?_toArray, List.getElem?_cons_zero, List.getElem?_cons_succ]; rfl
          case hQ6 => exact fun _ _ _ h => h
          case hN6 => rfl
          case hw6 => rfl
          case hy6 => intro W hSw; have z0 := pw_cell_below (show Below _ _ W from hSw) q1; have z1 := pw_cell_below (show Below _ _ W from hSw) q2; have z2 := pw_cell_below (show Below _ _ W from hSw) q4; have z3 := pw_cell_below (show Below _ _ W from hSw) q5; have z4 := pw_cell_below (show Below _ _ W from hSw) q7; have z5 := pw_cell_below (show Below _ _ W from hSw) q8; go_simp; (try with_reducible rfl)
          simp only [Act.put, List.setIfInBounds_toArray, List.set_cons_zero, List.set_cons_succ]
          refine wpAnyH_ready (rs := [6]) (by kernel_rfl) (by simp) ?_
          refine AllReadyH.cons (o := ?oi7) ?hi7 (fun K hK => ?step7) AllReadyH.nil
          case hi7 => simp only [List.getElem?_toArray, List.getElem?_cons_zero, List.getElem?_cons_succ]; rfl
          refine goes_ (N := some 39) Tryz.func50 (by kernel_rfl) rfl #[.float .f64 a.2, .float .f64 b.2] (by rfl) rfl rfl (by (try simp only [List.map_toArray, List.map_cons, List.map_nil]); rfl) ?_
          refine (M1.out _).mono ?_
          rintro e v6 ⟨rfl, hb⟩
          refine ⟨_, rfl, ?_⟩
          refine hK.out _ _ (below_step hHeld hb) (fun hHeld => ?_)
          clear hK K hb
          simp only [Act.put, List.setIfInBounds_toArray, List.set_cons_zero, List.set_cons_succ]
          refine take_ (oi := ?oi8) (i := 7) (N := some 40) (v := ?v8) ?hi8 (by kernel_rfl) (by kernel_rfl) (by kernel_rfl) ?hQ8 ?hN8 (Or.inl ⟨?hw8, ?hy8⟩) hHeld ?rest8
          case hi8 => simp only [List.getElem?_toArray, List.getElem?_cons_zero, List.getElem?_cons_succ]; rfl
          case hQ8 => exact fun _ _ _ h => h
          case hN8 => rfl
          case hw8 => rfl
          case hy8 => intro W hSw; have z0 := pw_cell_below (show Below _ _ W from hSw) q1; have z1 := pw_cell_below (show Below _ _ W from hSw) q2; have z2 := pw_cell_below (show Below _ _ W from hSw) q4; have z3 := pw_cell_below (show Below _ _ W from hSw) q5; have z4 := pw_cell_below (show Below _ _ W from hSw) q7; have z5 := pw_cell_below (show Below _ _ W from hSw) q8; go_simp; (try with_reducible rfl)
          simp only [Act.put, List.setIfInBounds_toArray, List.set_cons_zero, List.set_cons_succ]
          refine take_ (oi := ?oi9) (i := 8) (N := some 41) (v := ?v9) ?hi9 (by kernel_rfl) (by kernel_rfl) (by kernel_rfl) ?hQ9 ?hN9 (Or.inl ⟨?hw9, ?hy9⟩) hHeld ?rest9
          case hi9 => simp only [List.getElem?_toArray, List.getElem?_cons_zero, List.getElem?_cons_succ]; rfl
          case hQ9 => exact fun _ _ _ h => h
          case hN9 => rfl
          case hw9 => rfl
          case hy9 => intro W hSw; have z0 := pw_cell_below (show Below _ _ W from hSw) q1; have z1 := pw_cell_below (show Below _ _ W from hSw) q2; have z2 := pw_cell_below (show Below _ _ W from hSw) q4; have z3 := pw_cell_below (show Below _ _ W from hSw) q5; have z4 := pw_cell_below (show Below _ _ W from hSw) q7; have z5 := pw_cell_below (show Below _ _ W from hSw) q8; go_simp; (try with_reducible rfl)
          simp only [Act.put, List.setIfInBounds_toArray, List.set_cons_zero, List.set_cons_succ]
          refine take_ (oi := ?oi10) (i := 9) (N := some 42) (v := undef) ?hi10 (by kernel_rfl) (by kernel_rfl) (by kernel_rfl) ?hQ10 ?hN10 (Or.inr ⟨?hw10, rfl⟩) hHeld ?rest10
          case hi10 => simp only [List.getElem?_toArray, List.getElem?_cons_zero, List.getElem?_cons_succ]; rfl
          case hQ10 => exact fun _ _ _ h => h
          case hN10 => rfl
          case hw10 => rfl
          simp only [Act.put, List.setIfInBounds_toArray, List.set_cons_zero, List.set_cons_succ]
          refine take_ (oi := ?oi11) (i := 10) (N := some 43) (v := undef) ?hi11 (by kernel_rfl) (by kernel_rfl) (by kernel_rfl) ?hQ11 ?hN11 (Or.inr ⟨?hw11, rfl⟩) hHeld ?rest11
          case hi11 => simp only [List.getElem?_toArray, List.getElem?_cons_zero, List.getElem?_cons_succ]; rfl
          case hQ11 => exact fun _ _ _ h => h
          case hN11 => rfl
          case hw11 => rfl
          simp only [Act.put, List.setIfInBounds_toArray, List.set_cons_zero, List.set_cons_succ]
          refine take_ (oi := ?oi12) (i := 11) (N := some 44) (v := undef) ?hi12 (by kernel_rfl) (by kernel_rfl) (by kernel_rfl) ?hQ12 ?hN12 (Or.inr ⟨?hw12, rfl⟩) hHeld ?rest12
          case hi12 => simp only [List.getElem?_toArray, List.getElem?_cons_zero, List.getElem?_cons_succ]; rfl
          case hQ12 => exact fun _ _ _ h => h
          case hN12 => rfl
          case hw12 => rfl
          simp only [Act.put, List.setIfInBounds_toArray, List.set_cons_zero, List.set_cons_succ]
          refine take_ (oi := ?oi13) (i := 12) (N := some 45) (v := undef) ?hi13 (by kernel_rfl) (by kernel_rfl) (by kernel_rfl) ?hQ13 ?hN13 (Or.inr ⟨?hw13, rfl⟩) hHeld ?rest13
          case hi13 => simp only [List.getElem?_toArray, List.getElem?_cons_zero, List.getElem?_cons_succ]; rfl
          case hQ13 => exact fun _ _ _ h => h
          case hN13 => rfl
          case hw13 => rfl
          simp only [Act.put, List.setIfInBounds_toArray, List.set_cons_zero, List.set_cons_succ]
          refine take_ (oi := ?oi14) (i := 13) (N := some 46) (v := undef) ?hi14 (by kernel_rfl) (by kernel_rfl) (by kernel_rfl) ?hQ14 ?hN14 (Or.inr ⟨?hw14, rfl⟩) hHeld ?rest14
          case hi14 => simp only [List.getElem?_toArray, List.getElem?_cons_zero, List.getElem?_cons_succ]; rfl
          case hQ14 => exact fun _ _ _ h => h
          case hN14 => rfl
          case hw14 => rfl
          simp only [Act.put, List.setIfInBounds_toArray, List.set_cons_zero, List.set_cons_succ]
          refine take_ (oi := ?oi15) (i := 14) (N := some 47) (v := undef) ?hi15 (by kernel_rfl) (by kernel_rfl) (by kernel_rfl) ?hQ15 ?hN15 (Or.inr ⟨?hw15, rfl⟩) hHeld ?rest15
          case hi15 => simp only [List.getElem?_toArray, List.getElem?_cons_zero, List.getElem?_cons_succ]; rfl
          case hQ15 => exact fun _ _ _ h => h
          case hN15 => rfl
          case hw15 => rfl
          simp only [Act.put, List.setIfInBounds_toArray, List.set_cons_zero, List.set_cons_succ]
          refine take_ (oi := ?oi16) (i := 15) (N := some 48) (v := undef) ?hi16 (by kernel_rfl) (by kernel_rfl) (by kernel_rfl) ?hQ16 ?hN16 (Or.inr ⟨?hw16, rfl⟩) hHeld ?rest16
          case hi16 => simp only [List.getElem?_toArray, List.getElem?_cons_zero, List.getElem?_cons_succ]; rfl
          case hQ16 => exact fun _ _ _ h => h
          case hN16 => rfl
          case hw16 => rfl
          simp only [Act.put, List.setIfInBounds_toArray, List.set_cons_zero, List.set_cons_succ]
          refine take_ (oi := ?oi17) (i := 16) (N := some 49) (v := undef) ?hi17 (by kernel_rfl) (by kernel_rfl) (by kernel_rfl) ?hQ17 ?hN17 (Or.inr ⟨?hw17, rfl⟩) hHeld ?rest17
          case hi17 => simp only [List.getElem?_toArray, List.getElem?_cons_zero, List.getElem?_cons_succ]; rfl
          case hQ17 => exact fun _ _ _ h => h
          case hN17 => rfl
          case hw17 => rfl
          simp only [Act.put, List.setIfInBounds_toArray, List.set_cons_zero, List.set_cons_succ]
          refine take_ (oi := ?oi18) (i := 17) (N := some 50) (v := ?v18) ?hi18 (by kernel_rfl) (by kernel_rfl) (by kernel_rfl) ?hQ18 ?hN18 (Or.inl ⟨?hw18, ?hy18⟩) hHeld ?rest18
          case hi18 => simp only [List.getElem?_toArray, List.getElem?_cons_zero, List.getElem?_cons_succ]; rfl
          case hQ18 => exact fun _ _ _ h => h
          case hN18 => rfl
          case hw18 => rfl
          case hy18 => intro W hSw; have z0 := pw_cell_below (show Below _ _ W from hSw) q1; have z1 := pw_cell_below (show Below _ _ W from hSw) q2; have z2 := pw_cell_below (show Below _ _ W from hSw) q4; have z3 := pw_cell_below (show Below _ _ W from hSw) q5; have z4 := pw_cell_below (show Below _ _ W from hSw) q7; have z5 := pw_cell_below (show Below _ _ W from hSw) q8; go_simp; (try with_reducible rfl)
          simp only [Act.put, List.setIfInBounds_toArray, List.set_cons_zero, List.set_cons_succ]
          refine wpAnyH_done (by kernel_rfl) ?_ _
          refine NoPanic.normal ?_
          have HBz := Aside0.mk (below_step HBV.out hHeld)
          have f1z := (hHeld.block _ (blk_lt f1V)).trans f1V
          have f2z := (hHeld.block _ (blk_lt f2V)).trans f2V
          clear hA hB f1V f2V HBV q0 q1 q2 q3 q4 q5 q6 q7 q8 hHeld
          go_wp2
          go_roundw
          case rel => exact ⟨k + 1, by go_num, by rw [cr_no (hHit.symm.trans (by rw [show decide (x.2 ≤ min ay b_y) = true from decide_eq_true (by omega), show decide (ay = b_y) = false from decide_eq_false (by have := D0.out; omega)]; rfl))], by omega, HBz, f1z, f2z⟩
          case measure => simp [intOf]; omega
        · have E1' := E1.trans (decide_eq_false c1)
          have D1 := Aside0.mk c1
          clear E1
          by_cases c2 : max ay b_y < x.2
          · have E2' := E2.trans (decide_eq_true c2)
            clear E2
            refine wp_region_noPanic ?_
            refine wp_region_held_drew (S := fun W => Below V.heap.size V W) (by kernel_rfl) ?_ (fun hHeld => ?_)
            · exact below_drew (Below.refl _ _)
            refine take_ (oi := ?oi19) (i := 0) (N := some 33) (v := ?v19) ?hi19 (by kernel_rfl) (by kernel_rfl) (by kernel_rfl) ?hQ19 ?hN19 (Or.inl ⟨?hw19, ?hy19⟩) hHeld ?rest19
            case hi19 => simp only [List.getElem?_toArray, List.getElem?_cons_zero, List.getElem?_cons_succ]; rfl
            case hQ19 => exact fun _ _ _ h => h
            case hN19 => rfl
            case hw19 => rfl
            case hy19 => intro W hSw; have z0 := pw_cell_below (show Below _ _ W from hSw) q1; have z1 := pw_cell_below (show Below _ _ W from hSw) q2; have z2 := pw_cell_below (show Below _ _ W from hSw) q4; have z3 := pw_cell_below (show Below _ _ W from hSw) q5; have z4 := pw_cell_below (show Below _ _ W from hSw) q7; have z5 := pw_cell_below (show Below _ _ W from hSw) q8; go_simp; (try with_reducible rfl)
            simp only [Act.put, List.setIfInBounds_toArray, List.set_cons_zero, List.set_cons_succ]
            refine take_ (oi := ?oi20) (i := 1) (N := some 34) (v := ?v20) ?hi20 (by kernel_rfl) (by kernel_rfl) (by kernel_rfl) ?hQ20 ?hN20 (Or.inl ⟨?hw20, ?hy20⟩) hHeld ?rest20
            case hi20 => simp only [List.getElem?_toArray, List.getElem?_cons_zero, List.getElem?_cons_succ]; rfl
            case hQ20 => exact fun _ _ _ h => h
            case hN20 => rfl
            case hw20 => rfl
            case hy20 => intro W hSw; have z0 := pw_cell_below (show Below _ _ W from hSw) q1; have z1 := pw_cell_below (show Below _ _ W from hSw) q2; have z2 := pw_cell_below (show Below _ _ W from hSw) q4; have z3 := pw_cell_below (show Below _ _ W from hSw) q5; have z4 := pw_cell_below (show Below _ _ W from hSw) q7; have z5 := pw_cell_below (show Below _ _ W from hSw) q8; go_simp; (try with_reducible rfl)
            simp only [Act.put, List.setIfInBounds_toArray, List.set_cons_zero, List.set_cons_succ]
            refine take_ (oi := ?oi21) (i := 2) (N := some 35) (v := ?v21) ?hi21 (by kernel_rfl) (by kernel_rfl) (by kernel_rfl) ?hQ21 ?hN21 (Or.inl ⟨?hw21, ?hy21⟩) hHeld ?rest21
            case hi21 => simp only [List.getElem?_toArray, List.getElem?_cons_zero, List.getElem?_cons_succ]; rfl
            case hQ21 => exact fun _ _ _ h => h
            case hN21 => rfl
            case hw21 => rfl
            case hy21 => intro W hSw; have z0 := pw_cell_below (show Below _ _ W from hSw) q1; have z1 := pw_cell_below (show Below _ _ W from hSw) q2; have z2 := pw_cell_below (show Below _ _ W from hSw) q4; have z3 := pw_cell_below (show Below _ _ W from hSw) q5; have z4 := pw_cell_below (show Below _ _ W from hSw) q7; have z5 := pw_cell_below (show Below _ _ W from hSw) q8; go_simp; (try with_reducible rfl)
            simp only [Act.put, List.setIfInBounds_toArray, List.set_cons_zero, List.set_cons_succ]
            refine take_ (oi := ?oi22) (i := 3) (N := some 36) (v := ?v22) ?hi22 (by kernel_rfl) (by kernel_rfl) (by kernel_rfl) ?hQ22 ?hN22 (Or.inl ⟨?hw22, ?hy22⟩) hHeld ?rest22
            case hi22 => simp only [List.getElem?_toArray, List.getElem?_cons_zero, List.getElem?_cons_succ]; rfl
            case hQ22 => exact fun _ _ _ h => h
            case hN22 => rfl
            case hw22 => rfl
            case hy22 => intro W hSw; have z0 := pw_cell_below (show Below _ _ W from hSw) q1; have z1 := pw_cell_below (show Below _ _ W from hSw) q2; have z2 := pw_cell_below (show Below _ _ W from hSw) q4; have z3 := pw_cell_below (show Below _ _ W from hSw) q5; have z4 := pw_cell_below (show Below _ _ W from hSw) q7; have z5 := pw_cell_below (show Below _ _ W from hSw) q8; go_simp; (try with_reducible rfl)
            simp only [Act.put, List.setIfInBounds_toArray, List.set_cons_zero, List.set_cons_succ]
            refine take_ (oi := ?oi23) (i := 4) (N := some 37) (v := ?v23) ?hi23 (by kernel_rfl) (by kernel_rfl) (by kernel_rfl) ?hQ23 ?hN23 (Or.inl ⟨?hw23, ?hy23⟩) hHeld ?rest23
            case hi23 => simp only [List.getElem?_toArray, List.getElem?_cons_zero, List.getElem?_cons_succ]; rfl
            case hQ23 => exact fun _ _ _ h => h
            case hN23 => rfl
            case hw23 => rfl
            case hy23 => intro W hSw; have z0 := pw_cell_below (show Below _ _ W from hSw) q1; have z1 := pw_cell_below (show Below _ _ W from hSw) q2; have z2 := pw_cell_below (show Below _ _ W from hSw) q4; have z3 := pw_cell_below (show Below _ _ W from hSw) q5; have z4 := pw_cell_below (show Below _ _ W from hSw) q7; have z5 := pw_cell_below (show Below _ _ W from hSw) q8; go_simp; (try with_reducible rfl)
            simp only [Act.put, List.setIfInBounds_toArray, List.set_cons_zero, List.set_cons_succ]
            refine take_ (oi := ?oi24) (i := 5) (N := some 38) (v := ?v24) ?hi24 (by kernel_rfl) (by kernel_rfl) (by kernel_rfl) ?hQ24 ?hN24 (Or.inl ⟨?hw24, ?hy24⟩) hHeld ?rest24
            case hi24 => simp only [List.getElem?_toArray, List.getElem?_cons_zero, List.getElem?_cons_succ]; rfl
            case hQ24 => exact fun _ _ _ h => h
            case hN24 => rfl
            case hw24 => rfl
            case hy24 => intro W hSw; have z0 := pw_cell_below (show Below _ _ W from hSw) q1; have z1 := pw_cell_below (show Below _ _ W from hSw) q2; have z2 := pw_cell_below (show Below _ _ W from hSw) q4; have z3 := pw_cell_below (show Below _ _ W from hSw) q5; have z4 := pw_cell_below (show Below _ _ W from hSw) q7; have z5 := pw_cell_below (show Below _ _ W from hSw) q8; go_simp; (try with_reducible rfl)
            simp only [Act.put, List.setIfInBounds_toArray, List.set_cons_zero, List.set_cons_succ]
            refine wpAnyH_ready (rs := [6]) (by kernel_rfl) (by simp) ?_
            refine AllReadyH.cons (o := ?oi25) ?hi25 (fun K hK => ?step25) AllReadyH.nil
            case hi25 => simp only [List.getElem?_toArray, List.getElem?_cons_zero, List.getElem?_cons_succ]; rfl
            refine goes_ (N := some 39) Tryz.func50 (by kernel_rfl) rfl #[.float .f64 a.2, .float .f64 b.2] (by rfl) rfl rfl (by (try simp only [List.map_toArray, List.map_cons, List.map_nil]); rfl) ?_
            refine (M1.out _).mono ?_
            rintro e v6 ⟨rfl, hb⟩
            refine ⟨_, rfl, ?_⟩
            refine hK.out _ _ (below_step hHeld hb) (fun hHeld => ?_)
            clear hK K hb
            simp only [Act.put, List.setIfInBounds_toArray, List.set_cons_zero, List.set_cons_succ]
            refine take_ (oi := ?oi26) (i := 7) (N := some 40) (v := ?v26) ?hi26 (by kernel_rfl) (by kernel_rfl) (by kernel_rfl) ?hQ26 ?hN26 (Or.inl ⟨?hw26, ?hy26⟩) hHeld ?rest26
            case hi26 => simp only [List.getElem?_toArray, List.getElem?_cons_zero, List.getElem?_cons_succ]; rfl
            case hQ26 => exact fun _ _ _ h => h
            case hN26 => rfl
            case hw26 => rfl
            case hy26 => intro W hSw; have z0 := pw_cell_below (show Below _ _ W from hSw) q1; have z1 := pw_cell_below (show Below _ _ W from hSw) q2; have z2 := pw_cell_below (show Below _ _ W from hSw) q4; have z3 := pw_cell_below (show Below _ _ W from hSw) q5; have z4 := pw_cell_below (show Below _ _ W from hSw) q7; have z5 := pw_cell_below (show Below _ _ W from hSw) q8; go_simp; (try with_reducible rfl)
            simp only [Act.put, List.setIfInBounds_toArray, List.set_cons_zero, List.set_cons_succ]
            refine take_ (oi := ?oi27) (i := 8) (N := some 41) (v := ?v27) ?hi27 (by kernel_rfl) (by kernel_rfl) (by kernel_rfl) ?hQ27 ?hN27 (Or.inl ⟨?hw27, ?hy27⟩) hHeld ?rest27
            case hi27 => simp only [List.getElem?_toArray, List.getElem?_cons_zero, List.getElem?_cons_succ]; rfl
            case hQ27 => exact fun _ _ _ h => h
            case hN27 => rfl
            case hw27 => rfl
            case hy27 => intro W hSw; have z0 := pw_cell_below (show Below _ _ W from hSw) q1; have z1 := pw_cell_below (show Below _ _ W from hSw) q2; have z2 := pw_cell_below (show Below _ _ W from hSw) q4; have z3 := pw_cell_below (show Below _ _ W from hSw) q5; have z4 := pw_cell_below (show Below _ _ W from hSw) q7; have z5 := pw_cell_below (show Below _ _ W from hSw) q8; go_simp; (try with_reducible rfl)
            simp only [Act.put, List.setIfInBounds_toArray, List.set_cons_zero, List.set_cons_succ]
            refine take_ (oi := ?oi28) (i := 9) (N := some 42) (v := ?v28) ?hi28 (by kernel_rfl) (by kernel_rfl) (by kernel_rfl) ?hQ28 ?hN28 (Or.inl ⟨?hw28, ?hy28⟩) hHeld ?rest28
            case hi28 => simp only [List.getElem?_toArray, List.getElem?_cons_zero, List.getElem?_cons_succ]; rfl
            case hQ28 => exact fun _ _ _ h => h
            case hN28 => rfl
            case hw28 => rfl
            case hy28 => intro W hSw; have z0 := pw_cell_below (show Below _ _ W from hSw) q1; have z1 := pw_cell_below (show Below _ _ W from hSw) q2; have z2 := pw_cell_below (show Below _ _ W from hSw) q4; have z3 := pw_cell_below (show Below _ _ W from hSw) q5; have z4 := pw_cell_below (show Below _ _ W from hSw) q7; have z5 := pw_cell_below (show Below _ _ W from hSw) q8; go_simp; (try with_reducible rfl)
            simp only [Act.put, List.setIfInBounds_toArray, List.set_cons_zero, List.set_cons_succ]
            refine take_ (oi := ?oi29) (i := 10) (N := some 43) (v := ?v29) ?hi29 (by kernel_rfl) (by kernel_rfl) (by kernel_rfl) ?hQ29 ?hN29 (Or.inl ⟨?hw29, ?hy29⟩) hHeld ?rest29
            case hi29 => simp only [List.getElem?_toArray, List.getElem?_cons_zero, List.getElem?_cons_succ]; rfl
            case hQ29 => exact fun _ _ _ h => h
            case hN29 => rfl
            case hw29 => rfl
            case hy29 => intro W hSw; have z0 := pw_cell_below (show Below _ _ W from hSw) q1; have z1 := pw_cell_below (show Below _ _ W from hSw) q2; have z2 := pw_cell_below (show Below _ _ W from hSw) q4; have z3 := pw_cell_below (show Below _ _ W from hSw) q5; have z4 := pw_cell_below (show Below _ _ W from hSw) q7; have z5 := pw_cell_below (show Below _ _ W from hSw) q8; go_simp; (try with_reducible rfl)
            simp only [Act.put, List.setIfInBounds_toArray, List.set_cons_zero, List.set_cons_succ]
            refine take_ (oi := ?oi30) (i := 11) (N := some 44) (v := ?v30) ?hi30 (by kernel_rfl) (by kernel_rfl) (by kernel_rfl) ?hQ30 ?hN30 (Or.inl ⟨?hw30, ?hy30⟩) hHeld ?rest30
            case hi30 => simp only [List.getElem?_toArray, List.getElem?_cons_zero, List.getElem?_cons_succ]; rfl
            case hQ30 => exact fun _ _ _ h => h
            case hN30 => rfl
            case hw30 => rfl
            case hy30 => intro W hSw; have z0 := pw_cell_below (show Below _ _ W from hSw) q1; have z1 := pw_cell_below (show Below _ _ W from hSw) q2; have z2 := pw_cell_below (show Below _ _ W from hSw) q4; have z3 := pw_cell_below (show Below _ _ W from hSw) q5; have z4 := pw_cell_below (show Below _ _ W from hSw) q7; have z5 := pw_cell_below (show Below _ _ W from hSw) q8; go_simp; (try with_reducible rfl)
            simp only [Act.put, List.setIfInBounds_toArray, List.set_cons_zero, List.set_cons_succ]
            refine take_ (oi := ?oi31) (i := 12) (N := some 45) (v := ?v31) ?hi31 (by kernel_rfl) (by kernel_rfl) (by kernel_rfl) ?hQ31 ?hN31 (Or.inl ⟨?hw31, ?hy31⟩) hHeld ?rest31
            case hi31 => simp only [List.getElem?_toArray, List.getElem?_cons_zero, List.getElem?_cons_succ]; rfl
            case hQ31 => exact fun _ _ _ h => h
            case hN31 => rfl
            case hw31 => rfl
            case hy31 => intro W hSw; have z0 := pw_cell_below (show Below _ _ W from hSw) q1; have z1 := pw_cell_below (show Below _ _ W from hSw) q2; have z2 := pw_cell_below (show Below _ _ W from hSw) q4; have z3 := pw_cell_below (show Below _ _ W from hSw) q5; have z4 := pw_cell_below (show Below _ _ W from hSw) q7; have z5 := pw_cell_below (show Below _ _ W from hSw) q8; go_simp; (try with_reducible rfl)
            simp only [Act.put, List.setIfInBounds_toArray, List.set_cons_zero, List.set_cons_succ]
            refine take_ (oi := ?oi32) (i := 13) (N := some 46) (v := ?v32) ?hi32 (by kernel_rfl) (by kernel_rfl) (by kernel_rfl) ?hQ32 ?hN32 (Or.inl ⟨?hw32, ?hy32⟩) hHeld ?rest32
            case hi32 => simp only [List.getElem?_toArray, List.getElem?_cons_zero, List.getElem?_cons_succ]; rfl
            case hQ32 => exact fun _ _ _ h => h
            case hN32 => rfl
            case hw32 => rfl
            case hy32 => intro W hSw; have z0 := pw_cell_below (show Below _ _ W from hSw) q1; have z1 := pw_cell_below (show Below _ _ W from hSw) q2; have z2 := pw_cell_below (show Below _ _ W from hSw) q4; have z3 := pw_cell_below (show Below _ _ W from hSw) q5; have z4 := pw_cell_below (show Below _ _ W from hSw) q7; have z5 := pw_cell_below (show Below _ _ W from hSw) q8; go_simp; (try with_reducible rfl)
            simp only [Act.put, List.setIfInBounds_toArray, List.set_cons_zero, List.set_cons_succ]
            refine take_ (oi := ?oi33) (i := 14) (N := some 47) (v := ?v33) ?hi33 (by kernel_rfl) (by kernel_rfl) (by kernel_rfl) ?hQ33 ?hN33 (Or.inl ⟨?hw33, ?hy33⟩) hHeld ?rest33
            case hi33 => simp only [List.getElem?_toArray, List.getElem?_cons_zero, List.getElem?_cons_succ]; rfl
            case hQ33 => exact fun _ _ _ h => h
            case hN33 => rfl
            case hw33 => rfl
            case hy33 => intro W hSw; have z0 := pw_cell_below (show Below _ _ W from hSw) q1; have z1 := pw_cell_below (show Below _ _ W from hSw) q2; have z2 := pw_cell_below (show Below _ _ W from hSw) q4; have z3 := pw_cell_below (show Below _ _ W from hSw) q5; have z4 := pw_cell_below (show Below _ _ W from hSw) q7; have z5 := pw_cell_below (show Below _ _ W from hSw) q8; go_simp; (try with_reducible rfl)
            simp only [Act.put, List.setIfInBounds_toArray, List.set_cons_zero, List.set_cons_succ]
            refine wpAnyH_ready (rs := [15]) (by kernel_rfl) (by simp) ?_
            refine AllReadyH.cons (o := ?oi34) ?hi34 (fun K hK => ?step34) AllReadyH.nil
            case hi34 => simp only [List.getElem?_toArray, List.getElem?_cons_zero, List.getElem?_cons_succ]; rfl
            refine goes_ (N := some 48) Tryz.func51 (by kernel_rfl) rfl #[.float .f64 a.2, .float .f64 b.2] (by rfl) rfl rfl (by (try simp only [List.map_toArray, List.map_cons, List.map_nil]); rfl) ?_
            refine (M2.out _).mono ?_
            rintro e v15 ⟨rfl, hb⟩
            refine ⟨_, rfl, ?_⟩
            refine hK.out _ _ (below_step hHeld hb) (fun hHeld => ?_)
            clear hK K hb
            simp only [Act.put, List.setIfInBounds_toArray, List.set_cons_zero, List.set_cons_succ]
            refine take_ (oi := ?oi35) (i := 16) (N := some 49) (v := ?v35) ?hi35 (by kernel_rfl) (by kernel_rfl) (by kernel_rfl) ?hQ35 ?hN35 (Or.inl ⟨?hw35, ?hy35⟩) hHeld ?rest35
            case hi35 => simp only [List.getElem?_toArray, List.getElem?_cons_zero, List.getElem?_cons_succ]; rfl
            case hQ35 => exact fun _ _ _ h => h
            case hN35 => rfl
            case hw35 => rfl
            case hy35 => intro W hSw; have z0 := pw_cell_below (show Below _ _ W from hSw) q1; have z1 := pw_cell_below (show Below _ _ W from hSw) q2; have z2 := pw_cell_below (show Below _ _ W from hSw) q4; have z3 := pw_cell_below (show Below _ _ W from hSw) q5; have z4 := pw_cell_below (show Below _ _ W from hSw) q7; have z5 := pw_cell_below (show Below _ _ W from hSw) q8; go_simp; (try with_reducible rfl)
            simp only [Act.put, List.setIfInBounds_toArray, List.set_cons_zero, List.set_cons_succ]
            refine take_ (oi := ?oi36) (i := 17) (N := some 50) (v := ?v36) ?hi36 (by kernel_rfl) (by kernel_rfl) (by kernel_rfl) ?hQ36 ?hN36 (Or.inl ⟨?hw36, ?hy36⟩) hHeld ?rest36
            case hi36 => simp only [List.getElem?_toArray, List.getElem?_cons_zero, List.getElem?_cons_succ]; rfl
            case hQ36 => exact fun _ _ _ h => h
            case hN36 => rfl
            case hw36 => rfl
            case hy36 => intro W hSw; have z0 := pw_cell_below (show Below _ _ W from hSw) q1; have z1 := pw_cell_below (show Below _ _ W from hSw) q2; have z2 := pw_cell_below (show Below _ _ W from hSw) q4; have z3 := pw_cell_below (show Below _ _ W from hSw) q5; have z4 := pw_cell_below (show Below _ _ W from hSw) q7; have z5 := pw_cell_below (show Below _ _ W from hSw) q8; go_simp; (try with_reducible rfl)
            simp only [Act.put, List.setIfInBounds_toArray, List.set_cons_zero, List.set_cons_succ]
            refine wpAnyH_done (by kernel_rfl) ?_ _
            refine NoPanic.normal ?_
            have HBz := Aside0.mk (below_step HBV.out hHeld)
            have f1z := (hHeld.block _ (blk_lt f1V)).trans f1V
            have f2z := (hHeld.block _ (blk_lt f2V)).trans f2V
            clear hA hB f1V f2V HBV q0 q1 q2 q3 q4 q5 q6 q7 q8 hHeld
            go_wp2
            go_roundw
            case rel => exact ⟨k + 1, by go_num, by rw [cr_no (hHit.symm.trans (by rw [show decide (max ay b_y < x.2) = true from decide_eq_true (by omega), show decide (ay = b_y) = false from decide_eq_false (by have := D0.out; omega), show decide (x.2 ≤ min ay b_y) = false from decide_eq_false (by have := D1.out; omega)]; rfl))], by omega, HBz, f1z, f2z⟩
            case measure => simp [intOf]; omega
          · have E2' := E2.trans (decide_eq_false c2)
            have D2 := Aside0.mk c2
            clear E2
            refine wp_region_noPanic ?_
            refine wp_region_held_drew (S := fun W => Below V.heap.size V W) (by kernel_rfl) ?_ (fun hHeld => ?_)
            · exact below_drew (Below.refl _ _)
            refine take_ (oi := ?oi37) (i := 0) (N := some 33) (v := ?v37) ?hi37 (by kernel_rfl) (by kernel_rfl) (by kernel_rfl) ?hQ37 ?hN37 (Or.inl ⟨?hw37, ?hy37⟩) hHeld ?rest37
            case hi37 => simp only [List.getElem?_toArray, List.getElem?_cons_zero, List.getElem?_cons_succ]; rfl
            case hQ37 => exact fun _ _ _ h => h
            case hN37 => rfl
            case hw37 => rfl
            case hy37 => intro W hSw; have z0 := pw_cell_below (show Below _ _ W from hSw) q1; have z1 := pw_cell_below (show Below _ _ W from hSw) q2; have z2 := pw_cell_below (show Below _ _ W from hSw) q4; have z3 := pw_cell_below (show Below _ _ W from hSw) q5; have z4 := pw_cell_below (show Below _ _ W from hSw) q7; have z5 := pw_cell_below (show Below _ _ W from hSw) q8; go_simp; (try with_reducible rfl)
            simp only [Act.put, List.setIfInBounds_toArray, List.set_cons_zero, List.set_cons_succ]
            refine take_ (oi := ?oi38) (i := 1) (N := some 34) (v := ?v38) ?hi38 (by kernel_rfl) (by kernel_rfl) (by kernel_rfl) ?hQ38 ?hN38 (Or.inl ⟨?hw38, ?hy38⟩) hHeld ?rest38
            case hi38 => simp only [List.getElem?_toArray, List.getElem?_cons_zero, List.getElem?_cons_succ]; rfl
            case hQ38 => exact fun _ _ _ h => h
            case hN38 => rfl
            case hw38 => rfl
            case hy38 => intro W hSw; have z0 := pw_cell_below (show Below _ _ W from hSw) q1; have z1 := pw_cell_below (show Below _ _ W from hSw) q2; have z2 := pw_cell_below (show Below _ _ W from hSw) q4; have z3 := pw_cell_below (show Below _ _ W from hSw) q5; have z4 := pw_cell_below (show Below _ _ W from hSw) q7; have z5 := pw_cell_below (show Below _ _ W from hSw) q8; go_simp; (try with_reducible rfl)
            simp only [Act.put, List.setIfInBounds_toArray, List.set_cons_zero, List.set_cons_succ]
            refine take_ (oi := ?oi39) (i := 2) (N := some 35) (v := ?v39) ?hi39 (by kernel_rfl) (by kernel_rfl) (by kernel_rfl) ?hQ39 ?hN39 (Or.inl ⟨?hw39, ?hy39⟩) hHeld ?rest39
            case hi39 => simp only [List.getElem?_toArray, List.getElem?_cons_zero, List.getElem?_cons_succ]; rfl
            case hQ39 => exact fun _ _ _ h => h
            case hN39 => rfl
            case hw39 => rfl
            case hy39 => intro W hSw; have z0 := pw_cell_below (show Below _ _ W from hSw) q1; have z1 := pw_cell_below (show Below _ _ W from hSw) q2; have z2 := pw_cell_below (show Below _ _ W from hSw) q4; have z3 := pw_cell_below (show Below _ _ W from hSw) q5; have z4 := pw_cell_below (show Below _ _ W from hSw) q7; have z5 := pw_cell_below (show Below _ _ W from hSw) q8; go_simp; (try with_reducible rfl)
            simp only [Act.put, List.setIfInBounds_toArray, List.set_cons_zero, List.set_cons_succ]
            refine take_ (oi := ?oi40) (i := 3) (N := some 36) (v := ?v40) ?hi40 (by kernel_rfl) (by kernel_rfl) (by kernel_rfl) ?hQ40 ?hN40 (Or.inl ⟨?hw40, ?hy40⟩) hHeld ?rest40
            case hi40 => simp only [List.getElem?_toArray, List.getElem?_cons_zero, List.getElem?_cons_succ]; rfl
            case hQ40 => exact fun _ _ _ h => h
            case hN40 => rfl
            case hw40 => rfl
            case hy40 => intro W hSw; have z0 := pw_cell_below (show Below _ _ W from hSw) q1; have z1 := pw_cell_below (show Below _ _ W from hSw) q2; have z2 := pw_cell_below (show Below _ _ W from hSw) q4; have z3 := pw_cell_below (show Below _ _ W from hSw) q5; have z4 := pw_cell_below (show Below _ _ W from hSw) q7; have z5 := pw_cell_below (show Below _ _ W from hSw) q8; go_simp; (try with_reducible rfl)
            simp only [Act.put, List.setIfInBounds_toArray, List.set_cons_zero, List.set_cons_succ]
            refine take_ (oi := ?oi41) (i := 4) (N := some 37) (v := ?v41) ?hi41 (by kernel_rfl) (by kernel_rfl) (by kernel_rfl) ?hQ41 ?hN41 (Or.inl ⟨?hw41, ?hy41⟩) hHeld ?rest41
            case hi41 => simp only [List.getElem?_toArray, List.getElem?_cons_zero, List.getElem?_cons_succ]; rfl
            case hQ41 => exact fun _ _ _ h => h
            case hN41 => rfl
            case hw41 => rfl
            case hy41 => intro W hSw; have z0 := pw_cell_below (show Below _ _ W from hSw) q1; have z1 := pw_cell_below (show Below _ _ W from hSw) q2; have z2 := pw_cell_below (show Below _ _ W from hSw) q4; have z3 := pw_cell_below (show Below _ _ W from hSw) q5; have z4 := pw_cell_below (show Below _ _ W from hSw) q7; have z5 := pw_cell_below (show Below _ _ W from hSw) q8; go_simp; (try with_reducible rfl)
            simp only [Act.put, List.setIfInBounds_toArray, List.set_cons_zero, List.set_cons_succ]
            refine take_ (oi := ?oi42) (i := 5) (N := some 38) (v := ?v42) ?hi42 (by kernel_rfl) (by kernel_rfl) (by kernel_rfl) ?hQ42 ?hN42 (Or.inl ⟨?hw42, ?hy42⟩) hHeld ?rest42
            case hi42 => simp only [List.getElem?_toArray, List.getElem?_cons_zero, List.getElem?_cons_succ]; rfl
            case hQ42 => exact fun _ _ _ h => h
            case hN42 => rfl
            case hw42 => rfl
            case hy42 => intro W hSw; have z0 := pw_cell_below (show Below _ _ W from hSw) q1; have z1 := pw_cell_below (show Below _ _ W from hSw) q2; have z2 := pw_cell_below (show Below _ _ W from hSw) q4; have z3 := pw_cell_below (show Below _ _ W from hSw) q5; have z4 := pw_cell_below (show Below _ _ W from hSw) q7; have z5 := pw_cell_below (show Below _ _ W from hSw) q8; go_simp; (try with_reducible rfl)
            simp only [Act.put, List.setIfInBounds_toArray, List.set_cons_zero, List.set_cons_succ]
            refine wpAnyH_ready (rs := [6]) (by kernel_rfl) (by simp) ?_
            refine AllReadyH.cons (o := ?oi43) ?hi43 (fun K hK => ?step43) AllReadyH.nil
            case hi43 => simp only [List.getElem?_toArray, List.getElem?_cons_zero, List.getElem?_cons_succ]; rfl
            refine goes_ (N := some 39) Tryz.func50 (by kernel_rfl) rfl #[.float .f64 a.2, .float .f64 b.2] (by rfl) rfl rfl (by (try simp only [List.map_toArray, List.map_cons, List.map_nil]); rfl) ?_
            refine (M1.out _).mono ?_
            rintro e v6 ⟨rfl, hb⟩
            refine ⟨_, rfl, ?_⟩
            refine hK.out _ _ (below_step hHeld hb) (fun hHeld => ?_)
            clear hK K hb
            simp only [Act.put, List.setIfInBounds_toArray, List.set_cons_zero, List.set_cons_succ]
            refine take_ (oi := ?oi44) (i := 7) (N := some 40) (v := ?v44) ?hi44 (by kernel_rfl) (by kernel_rfl) (by kernel_rfl) ?hQ44 ?hN44 (Or.inl ⟨?hw44, ?hy44⟩) hHeld ?rest44
            case hi44 => simp only [List.getElem?_toArray, List.getElem?_cons_zero, List.getElem?_cons_succ]; rfl
            case hQ44 => exact fun _ _ _ h => h
            case hN44 => rfl
            case hw44 => rfl
            case hy44 => intro W hSw; have z0 := pw_cell_below (show Below _ _ W from hSw) q1; have z1 := pw_cell_below (show Below _ _ W from hSw) q2; have z2 := pw_cell_below (show Below _ _ W from hSw) q4; have z3 := pw_cell_below (show Below _ _ W from hSw) q5; have z4 := pw_cell_below (show Below _ _ W from hSw) q7; have z5 := pw_cell_below (show Below _ _ W from hSw) q8; go_simp; (try with_reducible rfl)
            simp only [Act.put, List.setIfInBounds_toArray, List.set_cons_zero, List.set_cons_succ]
            refine take_ (oi := ?oi45) (i := 8) (N := some 41) (v := ?v45) ?hi45 (by kernel_rfl) (by kernel_rfl) (by kernel_rfl) ?hQ45 ?hN45 (Or.inl ⟨?hw45, ?hy45⟩) hHeld ?rest45
            case hi45 => simp only [List.getElem?_toArray, List.getElem?_cons_zero, List.getElem?_cons_succ]; rfl
            case hQ45 => exact fun _ _ _ h => h
            case hN45 => rfl
            case hw45 => rfl
            case hy45 => intro W hSw; have z0 := pw_cell_below (show Below _ _ W from hSw) q1; have z1 := pw_cell_below (show Below _ _ W from hSw) q2; have z2 := pw_cell_below (show Below _ _ W from hSw) q4; have z3 := pw_cell_below (show Below _ _ W from hSw) q5; have z4 := pw_cell_below (show Below _ _ W from hSw) q7; have z5 := pw_cell_below (show Below _ _ W from hSw) q8; go_simp; (try with_reducible rfl)
            simp only [Act.put, List.setIfInBounds_toArray, List.set_cons_zero, List.set_cons_succ]
            refine take_ (oi := ?oi46) (i := 9) (N := some 42) (v := ?v46) ?hi46 (by kernel_rfl) (by kernel_rfl) (by kernel_rfl) ?hQ46 ?hN46 (Or.inl ⟨?hw46, ?hy46⟩) hHeld ?rest46
            case hi46 => simp only [List.getElem?_toArray, List.getElem?_cons_zero, List.getElem?_cons_succ]; rfl
            case hQ46 => exact fun _ _ _ h => h
            case hN46 => rfl
            case hw46 => rfl
            case hy46 => intro W hSw; have z0 := pw_cell_below (show Below _ _ W from hSw) q1; have z1 := pw_cell_below (show Below _ _ W from hSw) q2; have z2 := pw_cell_below (show Below _ _ W from hSw) q4; have z3 := pw_cell_below (show Below _ _ W from hSw) q5; have z4 := pw_cell_below (show Below _ _ W from hSw) q7; have z5 := pw_cell_below (show Below _ _ W from hSw) q8; go_simp; (try with_reducible rfl)
            simp only [Act.put, List.setIfInBounds_toArray, List.set_cons_zero, List.set_cons_succ]
            refine take_ (oi := ?oi47) (i := 10) (N := some 43) (v := ?v47) ?hi47 (by kernel_rfl) (by kernel_rfl) (by kernel_rfl) ?hQ47 ?hN47 (Or.inl ⟨?hw47, ?hy47⟩) hHeld ?rest47
            case hi47 => simp only [List.getElem?_toArray, List.getElem?_cons_zero, List.getElem?_cons_succ]; rfl
            case hQ47 => exact fun _ _ _ h => h
            case hN47 => rfl
            case hw47 => rfl
            case hy47 => intro W hSw; have z0 := pw_cell_below (show Below _ _ W from hSw) q1; have z1 := pw_cell_below (show Below _ _ W from hSw) q2; have z2 := pw_cell_below (show Below _ _ W from hSw) q4; have z3 := pw_cell_below (show Below _ _ W from hSw) q5; have z4 := pw_cell_below (show Below _ _ W from hSw) q7; have z5 := pw_cell_below (show Below _ _ W from hSw) q8; go_simp; (try with_reducible rfl)
            simp only [Act.put, List.setIfInBounds_toArray, List.set_cons_zero, List.set_cons_succ]
            refine take_ (oi := ?oi48) (i := 11) (N := some 44) (v := ?v48) ?hi48 (by kernel_rfl) (by kernel_rfl) (by kernel_rfl) ?hQ48 ?hN48 (Or.inl ⟨?hw48, ?hy48⟩) hHeld ?rest48
            case hi48 => simp only [List.getElem?_toArray, List.getElem?_cons_zero, List.getElem?_cons_succ]; rfl
            case hQ48 => exact fun _ _ _ h => h
            case hN48 => rfl
            case hw48 => rfl
            case hy48 => intro W hSw; have z0 := pw_cell_below (show Below _ _ W from hSw) q1; have z1 := pw_cell_below (show Below _ _ W from hSw) q2; have z2 := pw_cell_below (show Below _ _ W from hSw) q4; have z3 := pw_cell_below (show Below _ _ W from hSw) q5; have z4 := pw_cell_below (show Below _ _ W from hSw) q7; have z5 := pw_cell_below (show Below _ _ W from hSw) q8; go_simp; (try with_reducible rfl)
            simp only [Act.put, List.setIfInBounds_toArray, List.set_cons_zero, List.set_cons_succ]
            refine take_ (oi := ?oi49) (i := 12) (N := some 45) (v := ?v49) ?hi49 (by kernel_rfl) (by kernel_rfl) (by kernel_rfl) ?hQ49 ?hN49 (Or.inl ⟨?hw49, ?hy49⟩) hHeld ?rest49
            case hi49 => simp only [List.getElem?_toArray, List.getElem?_cons_zero, List.getElem?_cons_succ]; rfl
            case hQ49 => exact fun _ _ _ h => h
            case hN49 => rfl
            case hw49 => rfl
            case hy49 => intro W hSw; have z0 := pw_cell_below (show Below _ _ W from hSw) q1; have z1 := pw_cell_below (show Below _ _ W from hSw) q2; have z2 := pw_cell_below (show Below _ _ W from hSw) q4; have z3 := pw_cell_below (show Below _ _ W from hSw) q5; have z4 := pw_cell_below (show Below _ _ W from hSw) q7; have z5 := pw_cell_below (show Below _ _ W from hSw) q8; go_simp; (try with_reducible rfl)
            simp only [Act.put, List.setIfInBounds_toArray, List.set_cons_zero, List.set_cons_succ]
            refine take_ (oi := ?oi50) (i := 13) (N := some 46) (v := ?v50) ?hi50 (by kernel_rfl) (by kernel_rfl) (by kernel_rfl) ?hQ50 ?hN50 (Or.inl ⟨?hw50, ?hy50⟩) hHeld ?rest50
            case hi50 => simp only [List.getElem?_toArray, List.getElem?_cons_zero, List.getElem?_cons_succ]; rfl
            case hQ50 => exact fun _ _ _ h => h
            case hN50 => rfl
            case hw50 => rfl
            case hy50 => intro W hSw; have z0 := pw_cell_below (show Below _ _ W from hSw) q1; have z1 := pw_cell_below (show Below _ _ W from hSw) q2; have z2 := pw_cell_below (show Below _ _ W from hSw) q4; have z3 := pw_cell_below (show Below _ _ W from hSw) q5; have z4 := pw_cell_below (show Below _ _ W from hSw) q7; have z5 := pw_cell_below (show Below _ _ W from hSw) q8; go_simp; (try with_reducible rfl)
            simp only [Act.put, List.setIfInBounds_toArray, List.set_cons_zero, List.set_cons_succ]
            refine take_ (oi := ?oi51) (i := 14) (N := some 47) (v := ?v51) ?hi51 (by kernel_rfl) (by kernel_rfl) (by kernel_rfl) ?hQ51 ?hN51 (Or.inl ⟨?hw51, ?hy51⟩) hHeld ?rest51
            case hi51 => simp only [List.getElem?_toArray, List.getElem?_cons_zero, List.getElem?_cons_succ]; rfl
            case hQ51 => exact fun _ _ _ h => h
            case hN51 => rfl
            case hw51 => rfl
            case hy51 => intro W hSw; have z0 := pw_cell_below (show Below _ _ W from hSw) q1; have z1 := pw_cell_below (show Below _ _ W from hSw) q2; have z2 := pw_cell_below (show Below _ _ W from hSw) q4; have z3 := pw_cell_below (show Below _ _ W from hSw) q5; have z4 := pw_cell_below (show Below _ _ W from hSw) q7; have z5 := pw_cell_below (show Below _ _ W from hSw) q8; go_simp; (try with_reducible rfl)
            simp only [Act.put, List.setIfInBounds_toArray, List.set_cons_zero, List.set_cons_succ]
            refine wpAnyH_ready (rs := [15]) (by kernel_rfl) (by simp) ?_
            refine AllReadyH.cons (o := ?oi52) ?hi52 (fun K hK => ?step52) AllReadyH.nil
            case hi52 => simp only [List.getElem?_toArray, List.getElem?_cons_zero, List.getElem?_cons_succ]; rfl
            refine goes_ (N := some 48) Tryz.func51 (by kernel_rfl) rfl #[.float .f64 a.2, .float .f64 b.2] (by rfl) rfl rfl (by (try simp only [List.map_toArray, List.map_cons, List.map_nil]); rfl) ?_
            refine (M2.out _).mono ?_
            rintro e v15 ⟨rfl, hb⟩
            refine ⟨_, rfl, ?_⟩
            refine hK.out _ _ (below_step hHeld hb) (fun hHeld => ?_)
            clear hK K hb
            simp only [Act.put, List.setIfInBounds_toArray, List.set_cons_zero, List.set_cons_succ]
            refine take_ (oi := ?oi53) (i := 16) (N := some 49) (v := ?v53) ?hi53 (by kernel_rfl) (by kernel_rfl) (by kernel_rfl) ?hQ53 ?hN53 (Or.inl ⟨?hw53, ?hy53⟩) hHeld ?rest53
            case hi53 => simp only [List.getElem?_toArray, List.getElem?_cons_zero, List.getElem?_cons_succ]; rfl
            case hQ53 => exact fun _ _ _ h => h
            case hN53 => rfl
            case hw53 => rfl
            case hy53 => intro W hSw; have z0 := pw_cell_below (show Below _ _ W from hSw) q1; have z1 := pw_cell_below (show Below _ _ W from hSw) q2; have z2 := pw_cell_below (show Below _ _ W from hSw) q4; have z3 := pw_cell_below (show Below _ _ W from hSw) q5; have z4 := pw_cell_below (show Below _ _ W from hSw) q7; have z5 := pw_cell_below (show Below _ _ W from hSw) q8; go_simp; (try with_reducible rfl)
            simp only [Act.put, List.setIfInBounds_toArray, List.set_cons_zero, List.set_cons_succ]
            refine take_ (oi := ?oi54) (i := 17) (N := some 50) (v := ?v54) ?hi54 (by kernel_rfl) (by kernel_rfl) (by kernel_rfl) ?hQ54 ?hN54 (Or.inl ⟨?hw54, ?hy54⟩) hHeld ?rest54
            case hi54 => simp only [List.getElem?_toArray, List.getElem?_cons_zero, List.getElem?_cons_succ]; rfl
            case hQ54 => exact fun _ _ _ h => h
            case hN54 => rfl
            case hw54 => rfl
            case hy54 => intro W hSw; have z0 := pw_cell_below (show Below _ _ W from hSw) q1; have z1 := pw_cell_below (show Below _ _ W from hSw) q2; have z2 := pw_cell_below (show Below _ _ W from hSw) q4; have z3 := pw_cell_below (show Below _ _ W from hSw) q5; have z4 := pw_cell_below (show Below _ _ W from hSw) q7; have z5 := pw_cell_below (show Below _ _ W from hSw) q8; go_simp; (try with_reducible rfl)
            simp only [Act.put, List.setIfInBounds_toArray, List.set_cons_zero, List.set_cons_succ]
            refine wpAnyH_done (by kernel_rfl) ?_ _
            refine NoPanic.normal ?_
            have hA2 := (hHeld.block _ (blk_lt hA)).trans hA
            have hB2 := (hHeld.block _ (blk_lt hB)).trans hB
            have f1V2 := (hHeld.block _ (blk_lt f1V)).trans f1V
            have f2V2 := (hHeld.block _ (blk_lt f2V)).trans f2V
            have HBV2 := Aside0.mk (below_step HBV.out hHeld)
            clear hA hB f1V f2V HBV q0 q1 q2 q3 q4 q5 q6 q7 q8 hHeld
            have hA := hA2
            have hB := hB2
            have f1V := f1V2
            have f2V := f2V2
            have HBV := HBV2
            clear hA2 hB2 f1V2 f2V2 HBV2
            obtain ⟨q0, q1, q2⟩ := tpc hA
            obtain ⟨q3, q4, q5⟩ := tpc hB
            obtain ⟨q6, q7, q8⟩ := tpc f1V
            go_wp2
            by_cases c3 : max ax bx ≤ x.1
            · have E3' := E3.trans (decide_eq_true c3)
              clear E3
              refine wp_region_noPanic ?_
              refine wp_region_held_drew (S := fun W => Below v15.heap.size v15 W) (by kernel_rfl) ?_ (fun hHeld => ?_)
              · exact below_drew (Below.refl _ _)
              refine take_ (oi := ?oi55) (i := 0) (N := some 51) (v := ?v55) ?hi55 (by kernel_rfl) (by kernel_rfl) (by kernel_rfl) ?hQ55 ?hN55 (Or.inl ⟨?hw55, ?hy55⟩) hHeld ?rest55
              case hi55 => simp only [List.getElem?_toArray, List.getElem?_cons_zero, List.getElem?_cons_succ]; rfl
              case hQ55 => exact fun _ _ _ h => h
              case hN55 => rfl
              case hw55 => rfl
              case hy55 => intro W hSw; have z0 := pw_cell_below (show Below _ _ W from hSw) q1; have z1 := pw_cell_below (show Below _ _ W from hSw) q2; have z2 := pw_cell_below (show Below _ _ W from hSw) q4; have z3 := pw_cell_below (show Below _ _ W from hSw) q5; have z4 := pw_cell_below (show Below _ _ W from hSw) q7; have z5 := pw_cell_below (show Below _ _ W from hSw) q8; go_simp; (try with_reducible rfl)
              simp only [Act.put, List.setIfInBounds_toArray, List.set_cons_zero, List.set_cons_succ]
              refine take_ (oi := ?oi56) (i := 1) (N := some 52) (v := ?v56) ?hi56 (by kernel_rfl) (by kernel_rfl) (by kernel_rfl) ?hQ56 ?hN56 (Or.inl ⟨?hw56, ?hy56⟩) hHeld ?rest56
              case hi56 => simp only [List.getElem?_toArray, List.getElem?_cons_zero, List.getElem?_cons_succ]; rfl
              case hQ56 => exact fun _ _ _ h => h
              case hN56 => rfl
              case hw56 => rfl
              case hy56 => intro W hSw; have z0 := pw_cell_below (show Below _ _ W from hSw) q1; have z1 := pw_cell_below (show Below _ _ W from hSw) q2; have z2 := pw_cell_below (show Below _ _ W from hSw) q4; have z3 := pw_cell_below (show Below _ _ W from hSw) q5; have z4 := pw_cell_below (show Below _ _ W from hSw) q7; have z5 := pw_cell_below (show Below _ _ W from hSw) q8; go_simp; (try with_reducible rfl)
              simp only [Act.put, List.setIfInBounds_toArray, List.set_cons_zero, List.set_cons_succ]
              refine take_ (oi := ?oi57) (i := 2) (N := some 53) (v := ?v57) ?hi57 (by kernel_rfl) (by kernel_rfl) (by kernel_rfl) ?hQ57 ?hN57 (Or.inl ⟨?hw57, ?hy57⟩) hHeld ?rest57
              case hi57 => simp only [List.getElem?_toArray, List.getElem?_cons_zero, List.getElem?_cons_succ]; rfl
              case hQ57 => exact fun _ _ _ h => h
              case hN57 => rfl
              case hw57 => rfl
              case hy57 => intro W hSw; have z0 := pw_cell_below (show Below _ _ W from hSw) q1; have z1 := pw_cell_below (show Below _ _ W from hSw) q2; have z2 := pw_cell_below (show Below _ _ W from hSw) q4; have z3 := pw_cell_below (show Below _ _ W from hSw) q5; have z4 := pw_cell_below (show Below _ _ W from hSw) q7; have z5 := pw_cell_below (show Below _ _ W from hSw) q8; go_simp; (try with_reducible rfl)
              simp only [Act.put, List.setIfInBounds_toArray, List.set_cons_zero, List.set_cons_succ]
              refine take_ (oi := ?oi58) (i := 3) (N := some 54) (v := ?v58) ?hi58 (by kernel_rfl) (by kernel_rfl) (by kernel_rfl) ?hQ58 ?hN58 (Or.inl ⟨?hw58, ?hy58⟩) hHeld ?rest58
              case hi58 => simp only [List.getElem?_toArray, List.getElem?_cons_zero, List.getElem?_cons_succ]; rfl
              case hQ58 => exact fun _ _ _ h => h
              case hN58 => rfl
              case hw58 => rfl
              case hy58 => intro W hSw; have z0 := pw_cell_below (show Below _ _ W from hSw) q1; have z1 := pw_cell_below (show Below _ _ W from hSw) q2; have z2 := pw_cell_below (show Below _ _ W from hSw) q4; have z3 := pw_cell_below (show Below _ _ W from hSw) q5; have z4 := pw_cell_below (show Below _ _ W from hSw) q7; have z5 := pw_cell_below (show Below _ _ W from hSw) q8; go_simp; (try with_reducible rfl)
              simp only [Act.put, List.setIfInBounds_toArray, List.set_cons_zero, List.set_cons_succ]
              refine take_ (oi := ?oi59) (i := 4) (N := some 55) (v := ?v59) ?hi59 (by kernel_rfl) (by kernel_rfl) (by kernel_rfl) ?hQ59 ?hN59 (Or.inl ⟨?hw59, ?hy59⟩) hHeld ?rest59
              case hi59 => simp only [List.getElem?_toArray, List.getElem?_cons_zero, List.getElem?_cons_succ]; rfl
              case hQ59 => exact fun _ _ _ h => h
              case hN59 => rfl
              case hw59 => rfl
              case hy59 => intro W hSw; have z0 := pw_cell_below (show Below _ _ W from hSw) q1; have z1 := pw_cell_below (show Below _ _ W from hSw) q2; have z2 := pw_cell_below (show Below _ _ W from hSw) q4; have z3 := pw_cell_below (show Below _ _ W from hSw) q5; have z4 := pw_cell_below (show Below _ _ W from hSw) q7; have z5 := pw_cell_below (show Below _ _ W from hSw) q8; go_simp; (try with_reducible rfl)
              simp only [Act.put, List.setIfInBounds_toArray, List.set_cons_zero, List.set_cons_succ]
              refine take_ (oi := ?oi60) (i := 5) (N := some 56) (v := ?v60) ?hi60 (by kernel_rfl) (by kernel_rfl) (by kernel_rfl) ?hQ60 ?hN60 (Or.inl ⟨?hw60, ?hy60⟩) hHeld ?rest60
              case hi60 => simp only [List.getElem?_toArray, List.getElem?_cons_zero, List.getElem?_cons_succ]; rfl
              case hQ60 => exact fun _ _ _ h => h
              case hN60 => rfl
              case hw60 => rfl
              case hy60 => intro W hSw; have z0 := pw_cell_below (show Below _ _ W from hSw) q1; have z1 := pw_cell_below (show Below _ _ W from hSw) q2; have z2 := pw_cell_below (show Below _ _ W from hSw) q4; have z3 := pw_cell_below (show Below _ _ W from hSw) q5; have z4 := pw_cell_below (show Below _ _ W from hSw) q7; have z5 := pw_cell_below (show Below _ _ W from hSw) q8; go_simp; (try with_reducible rfl)
              simp only [Act.put, List.setIfInBounds_toArray, List.set_cons_zero, List.set_cons_succ]
              refine wpAnyH_ready (rs := [6]) (by kernel_rfl) (by simp) ?_
              refine AllReadyH.cons (o := ?oi61) ?hi61 (fun K hK => ?step61) AllReadyH.nil
              case hi61 => simp only [List.getElem?_toArray, List.getElem?_cons_zero, List.getElem?_cons_succ]; rfl
              refine goes_ (N := some 57) Tryz.func51 (by kernel_rfl) rfl #[.float .f64 a.1, .float .f64 b.1] (by rfl) rfl rfl (by (try simp only [List.map_toArray, List.map_cons, List.map_nil]); rfl) ?_
              refine (M3.out _).mono ?_
              rintro e v6 ⟨rfl, hb⟩
              refine ⟨_, rfl, ?_⟩
              refine hK.out _ _ (below_step hHeld hb) (fun hHeld => ?_)
              clear hK K hb
              simp only [Act.put, List.setIfInBounds_toArray, List.set_cons_zero, List.set_cons_succ]
              refine take_ (oi := ?oi62) (i := 7) (N := some 58) (v := ?v62) ?hi62 (by kernel_rfl) (by kernel_rfl) (by kernel_rfl) ?hQ62 ?hN62 (Or.inl ⟨?hw62, ?hy62⟩) hHeld ?rest62
              case hi62 => simp only [List.getElem?_toArray, List.getElem?_cons_zero, List.getElem?_cons_succ]; rfl
              case hQ62 => exact fun _ _ _ h => h
              case hN62 => rfl
              case hw62 => rfl
              case hy62 => intro W hSw; have z0 := pw_cell_below (show Below _ _ W from hSw) q1; have z1 := pw_cell_below (show Below _ _ W from hSw) q2; have z2 := pw_cell_below (show Below _ _ W from hSw) q4; have z3 := pw_cell_below (show Below _ _ W from hSw) q5; have z4 := pw_cell_below (show Below _ _ W from hSw) q7; have z5 := pw_cell_below (show Below _ _ W from hSw) q8; go_simp; (try with_reducible rfl)
              simp only [Act.put, List.setIfInBounds_toArray, List.set_cons_zero, List.set_cons_succ]
              refine wpAnyH_done (by kernel_rfl) ?_ _
              refine NoPanic.normal ?_
              have HBz := Aside0.mk (below_step HBV.out hHeld)
              have f1z := (hHeld.block _ (blk_lt f1V)).trans f1V
              have f2z := (hHeld.block _ (blk_lt f2V)).trans f2V
              clear hA hB f1V f2V HBV q0 q1 q2 q3 q4 q5 q6 q7 q8 hHeld
              go_wp2
              go_roundw
              case rel => exact ⟨k + 1, by go_num, by rw [cr_no (hHit.symm.trans (by rw [show decide (max ax bx ≤ x.1) = true from decide_eq_true (by omega), show decide (ay = b_y) = false from decide_eq_false (by have := D0.out; omega), show decide (x.2 ≤ min ay b_y) = false from decide_eq_false (by have := D1.out; omega), show decide (max ay b_y < x.2) = false from decide_eq_false (by have := D2.out; omega)]; rfl))], by omega, HBz, f1z, f2z⟩
              case measure => simp [intOf]; omega
            · have E3' := E3.trans (decide_eq_false c3)
              have D3 := Aside0.mk c3
              clear E3
              refine wp_region_noPanic ?_
              refine wp_region_held_drew (S := fun W => Below v15.heap.size v15 W) (by kernel_rfl) ?_ (fun hHeld => ?_)
              · exact below_drew (Below.refl _ _)
              refine take_ (oi := ?oi63) (i := 0) (N := some 51) (v := ?v63) ?hi63 (by kernel_rfl) (by kernel_rfl) (by kernel_rfl) ?hQ63 ?hN63 (Or.inl ⟨?hw63, ?hy63⟩) hHeld ?rest63
              case hi63 => simp only [List.getElem?_toArray, List.getElem?_cons_zero, List.getElem?_cons_succ]; rfl
              case hQ63 => exact fun _ _ _ h => h
              case hN63 => rfl
              case hw63 => rfl
              case hy63 => intro W hSw; have z0 := pw_cell_below (show Below _ _ W from hSw) q1; have z1 := pw_cell_below (show Below _ _ W from hSw) q2; have z2 := pw_cell_below (show Below _ _ W from hSw) q4; have z3 := pw_cell_below (show Below _ _ W from hSw) q5; have z4 := pw_cell_below (show Below _ _ W from hSw) q7; have z5 := pw_cell_below (show Below _ _ W from hSw) q8; go_simp; (try with_reducible rfl)
              simp only [Act.put, List.setIfInBounds_toArray, List.set_cons_zero, List.set_cons_succ]
              refine take_ (oi := ?oi64) (i := 1) (N := some 52) (v := ?v64) ?hi64 (by kernel_rfl) (by kernel_rfl) (by kernel_rfl) ?hQ64 ?hN64 (Or.inl ⟨?hw64, ?hy64⟩) hHeld ?rest64
              case hi64 => simp only [List.getElem?_toArray, List.getElem?_cons_zero, List.getElem?_cons_succ]; rfl
              case hQ64 => exact fun _ _ _ h => h
              case hN64 => rfl
              case hw64 => rfl
              case hy64 => intro W hSw; have z0 := pw_cell_below (show Below _ _ W from hSw) q1; have z1 := pw_cell_below (show Below _ _ W from hSw) q2; have z2 := pw_cell_below (show Below _ _ W from hSw) q4; have z3 := pw_cell_below (show Below _ _ W from hSw) q5; have z4 := pw_cell_below (show Below _ _ W from hSw) q7; have z5 := pw_cell_below (show Below _ _ W from hSw) q8; go_simp; (try with_reducible rfl)
              simp only [Act.put, List.setIfInBounds_toArray, List.set_cons_zero, List.set_cons_succ]
              refine take_ (oi := ?oi65) (i := 2) (N := some 53) (v := ?v65) ?hi65 (by kernel_rfl) (by kernel_rfl) (by kernel_rfl) ?hQ65 ?hN65 (Or.inl ⟨?hw65, ?hy65⟩) hHeld ?rest65
              case hi65 => simp only [List.getElem?_toArray, List.getElem?_cons_zero, List.getElem?_cons_succ]; rfl
              case hQ65 => exact fun _ _ _ h => h
              case hN65 => rfl
              case hw65 => rfl
              case hy65 => intro W hSw; have z0 := pw_cell_below (show Below _ _ W from hSw) q1; have z1 := pw_cell_below (show Below _ _ W from hSw) q2; have z2 := pw_cell_below (show Below _ _ W from hSw) q4; have z3 := pw_cell_below (show Below _ _ W from hSw) q5; have z4 := pw_cell_below (show Below _ _ W from hSw) q7; have z5 := pw_cell_below (show Below _ _ W from hSw) q8; go_simp; (try with_reducible rfl)
              simp only [Act.put, List.setIfInBounds_toArray, List.set_cons_zero, List.set_cons_succ]
              refine take_ (oi := ?oi66) (i := 3) (N := some 54) (v := ?v66) ?hi66 (by kernel_rfl) (by kernel_rfl) (by kernel_rfl) ?hQ66 ?hN66 (Or.inl ⟨?hw66, ?hy66⟩) hHeld ?rest66
              case hi66 => simp only [List.getElem?_toArray, List.getElem?_cons_zero, List.getElem?_cons_succ]; rfl
              case hQ66 => exact fun _ _ _ h => h
              case hN66 => rfl
              case hw66 => rfl
              case hy66 => intro W hSw; have z0 := pw_cell_below (show Below _ _ W from hSw) q1; have z1 := pw_cell_below (show Below _ _ W from hSw) q2; have z2 := pw_cell_below (show Below _ _ W from hSw) q4; have z3 := pw_cell_below (show Below _ _ W from hSw) q5; have z4 := pw_cell_below (show Below _ _ W from hSw) q7; have z5 := pw_cell_below (show Below _ _ W from hSw) q8; go_simp; (try with_reducible rfl)
              simp only [Act.put, List.setIfInBounds_toArray, List.set_cons_zero, List.set_cons_succ]
              refine take_ (oi := ?oi67) (i := 4) (N := some 55) (v := ?v67) ?hi67 (by kernel_rfl) (by kernel_rfl) (by kernel_rfl) ?hQ67 ?hN67 (Or.inl ⟨?hw67, ?hy67⟩) hHeld ?rest67
              case hi67 => simp only [List.getElem?_toArray, List.getElem?_cons_zero, List.getElem?_cons_succ]; rfl
              case hQ67 => exact fun _ _ _ h => h
              case hN67 => rfl
              case hw67 => rfl
              case hy67 => intro W hSw; have z0 := pw_cell_below (show Below _ _ W from hSw) q1; have z1 := pw_cell_below (show Below _ _ W from hSw) q2; have z2 := pw_cell_below (show Below _ _ W from hSw) q4; have z3 := pw_cell_below (show Below _ _ W from hSw) q5; have z4 := pw_cell_below (show Below _ _ W from hSw) q7; have z5 := pw_cell_below (show Below _ _ W from hSw) q8; go_simp; (try with_reducible rfl)
              simp only [Act.put, List.setIfInBounds_toArray, List.set_cons_zero, List.set_cons_succ]
              refine take_ (oi := ?oi68) (i := 5) (N := some 56) (v := ?v68) ?hi68 (by kernel_rfl) (by kernel_rfl) (by kernel_rfl) ?hQ68 ?hN68 (Or.inl ⟨?hw68, ?hy68⟩) hHeld ?rest68
              case hi68 => simp only [List.getElem?_toArray, List.getElem?_cons_zero, List.getElem?_cons_succ]; rfl
              case hQ68 => exact fun _ _ _ h => h
              case hN68 => rfl
              case hw68 => rfl
              case hy68 => intro W hSw; have z0 := pw_cell_below (show Below _ _ W from hSw) q1; have z1 := pw_cell_below (show Below _ _ W from hSw) q2; have z2 := pw_cell_below (show Below _ _ W from hSw) q4; have z3 := pw_cell_below (show Below _ _ W from hSw) q5; have z4 := pw_cell_below (show Below _ _ W from hSw) q7; have z5 := pw_cell_below (show Below _ _ W from hSw) q8; go_simp; (try with_reducible rfl)
              simp only [Act.put, List.setIfInBounds_toArray, List.set_cons_zero, List.set_cons_succ]
              refine wpAnyH_ready (rs := [6]) (by kernel_rfl) (by simp) ?_
              refine AllReadyH.cons (o := ?oi69) ?hi69 (fun K hK => ?step69) AllReadyH.nil
              case hi69 => simp only [List.getElem?_toArray, List.getElem?_cons_zero, List.getElem?_cons_succ]; rfl
              refine goes_ (N := some 57) Tryz.func51 (by kernel_rfl) rfl #[.float .f64 a.1, .float .f64 b.1] (by rfl) rfl rfl (by (try simp only [List.map_toArray, List.map_cons, List.map_nil]); rfl) ?_
              refine (M3.out _).mono ?_
              rintro e v6 ⟨rfl, hb⟩
              refine ⟨_, rfl, ?_⟩
              refine hK.out _ _ (below_step hHeld hb) (fun hHeld => ?_)
              clear hK K hb
              simp only [Act.put, List.setIfInBounds_toArray, List.set_cons_zero, List.set_cons_succ]
              refine take_ (oi := ?oi70) (i := 7) (N := some 58) (v := ?v70) ?hi70 (by kernel_rfl) (by kernel_rfl) (by kernel_rfl) ?hQ70 ?hN70 (Or.inl ⟨?hw70, ?hy70⟩) hHeld ?rest70
              case hi70 => simp only [List.getElem?_toArray, List.getElem?_cons_zero, List.getElem?_cons_succ]; rfl
              case hQ70 => exact fun _ _ _ h => h
              case hN70 => rfl
              case hw70 => rfl
              case hy70 => intro W hSw; have z0 := pw_cell_below (show Below _ _ W from hSw) q1; have z1 := pw_cell_below (show Below _ _ W from hSw) q2; have z2 := pw_cell_below (show Below _ _ W from hSw) q4; have z3 := pw_cell_below (show Below _ _ W from hSw) q5; have z4 := pw_cell_below (show Below _ _ W from hSw) q7; have z5 := pw_cell_below (show Below _ _ W from hSw) q8; go_simp; (try with_reducible rfl)
              simp only [Act.put, List.setIfInBounds_toArray, List.set_cons_zero, List.set_cons_succ]
              refine wpAnyH_done (by kernel_rfl) ?_ _
              refine NoPanic.normal ?_
              have hA2 := (hHeld.block _ (blk_lt hA)).trans hA
              have hB2 := (hHeld.block _ (blk_lt hB)).trans hB
              have f1V2 := (hHeld.block _ (blk_lt f1V)).trans f1V
              have f2V2 := (hHeld.block _ (blk_lt f2V)).trans f2V
              have HBV2 := Aside0.mk (below_step HBV.out hHeld)
              clear hA hB f1V f2V HBV q0 q1 q2 q3 q4 q5 q6 q7 q8 hHeld
              have hA := hA2
              have hB := hB2
              have f1V := f1V2
              have f2V := f2V2
              have HBV := HBV2
              clear hA2 hB2 f1V2 f2V2 HBV2
              obtain ⟨q0, q1, q2⟩ := tpc hA
              obtain ⟨q3, q4, q5⟩ := tpc hB
              obtain ⟨q6, q7, q8⟩ := tpc f1V
              go_wp2
              refine wp_region_noPanic ?_
              refine wp_region_held_drew (S := fun W => Below v6.heap.size v6 W) (by kernel_rfl) ?_ (fun hHeld => ?_)
              · exact below_drew (Below.refl _ _)
              refine take_ (oi := ?oi71) (i := 0) (N := some 59) (v := ?v71) ?hi71 (by kernel_rfl) (by kernel_rfl) (by kernel_rfl) ?hQ71 ?hN71 (Or.inl ⟨?hw71, ?hy71⟩) hHeld ?rest71
              case hi71 => simp only [List.getElem?_toArray, List.getElem?_cons_zero, List.getElem?_cons_succ]; rfl
              case hQ71 => exact fun _ _ _ h => h
              case hN71 => rfl
              case hw71 => rfl
              case hy71 => intro W hSw; have z0 := pw_cell_below (show Below _ _ W from hSw) q1; have z1 := pw_cell_below (show Below _ _ W from hSw) q2; have z2 := pw_cell_below (show Below _ _ W from hSw) q4; have z3 := pw_cell_below (show Below _ _ W from hSw) q5; have z4 := pw_cell_below (show Below _ _ W from hSw) q7; have z5 := pw_cell_below (show Below _ _ W from hSw) q8; go_simp; (try with_reducible rfl)
              simp only [Act.put, List.setIfInBounds_toArray, List.set_cons_zero, List.set_cons_succ]
              refine take_ (oi := ?oi72) (i := 1) (N := some 60) (v := ?v72) ?hi72 (by kernel_rfl) (by kernel_rfl) (by kernel_rfl) ?hQ72 ?hN72 (Or.inl ⟨?hw72, ?hy72⟩) hHeld ?rest72
              case hi72 => simp only [List.getElem?_toArray, List.getElem?_cons_zero, List.getElem?_cons_succ]; rfl
              case hQ72 => exact fun _ _ _ h => h
              case hN72 => rfl
              case hw72 => rfl
              case hy72 => intro W hSw; have z0 := pw_cell_below (show Below _ _ W from hSw) q1; have z1 := pw_cell_below (show Below _ _ W from hSw) q2; have z2 := pw_cell_below (show Below _ _ W from hSw) q4; have z3 := pw_cell_below (show Below _ _ W from hSw) q5; have z4 := pw_cell_below (show Below _ _ W from hSw) q7; have z5 := pw_cell_below (show Below _ _ W from hSw) q8; go_simp; (try with_reducible rfl)
              simp only [Act.put, List.setIfInBounds_toArray, List.set_cons_zero, List.set_cons_succ]
              refine take_ (oi := ?oi73) (i := 2) (N := some 61) (v := ?v73) ?hi73 (by kernel_rfl) (by kernel_rfl) (by kernel_rfl) ?hQ73 ?hN73 (Or.inl ⟨?hw73, ?hy73⟩) hHeld ?rest73
              case hi73 => simp only [List.getElem?_toArray, List.getElem?_cons_zero, List.getElem?_cons_succ]; rfl
              case hQ73 => exact fun _ _ _ h => h
              case hN73 => rfl
              case hw73 => rfl
              case hy73 => intro W hSw; have z0 := pw_cell_below (show Below _ _ W from hSw) q1; have z1 := pw_cell_below (show Below _ _ W from hSw) q2; have z2 := pw_cell_below (show Below _ _ W from hSw) q4; have z3 := pw_cell_below (show Below _ _ W from hSw) q5; have z4 := pw_cell_below (show Below _ _ W from hSw) q7; have z5 := pw_cell_below (show Below _ _ W from hSw) q8; go_simp; (try with_reducible rfl)
              simp only [Act.put, List.setIfInBounds_toArray, List.set_cons_zero, List.set_cons_succ]
              refine take_ (oi := ?oi74) (i := 3) (N := some 62) (v := ?v74) ?hi74 (by kernel_rfl) (by kernel_rfl) (by kernel_rfl) ?hQ74 ?hN74 (Or.inl ⟨?hw74, ?hy74⟩) hHeld ?rest74
              case hi74 => simp only [List.getElem?_toArray, List.getElem?_cons_zero, List.getElem?_cons_succ]; rfl
              case hQ74 => exact fun _ _ _ h => h
              case hN74 => rfl
              case hw74 => rfl
              case hy74 => intro W hSw; have z0 := pw_cell_below (show Below _ _ W from hSw) q1; have z1 := pw_cell_below (show Below _ _ W from hSw) q2; have z2 := pw_cell_below (show Below _ _ W from hSw) q4; have z3 := pw_cell_below (show Below _ _ W from hSw) q5; have z4 := pw_cell_below (show Below _ _ W from hSw) q7; have z5 := pw_cell_below (show Below _ _ W from hSw) q8; go_simp; (try with_reducible rfl)
              simp only [Act.put, List.setIfInBounds_toArray, List.set_cons_zero, List.set_cons_succ]
              refine take_ (oi := ?oi75) (i := 5) (N := some 64) (v := ?v75) ?hi75 (by kernel_rfl) (by kernel_rfl) (by kernel_rfl) ?hQ75 ?hN75 (Or.inl ⟨?hw75, ?hy75⟩) hHeld ?rest75
              case hi75 => simp only [List.getElem?_toArray, List.getElem?_cons_zero, List.getElem?_cons_succ]; rfl
              case hQ75 => exact fun _ _ _ h => h
              case hN75 => rfl
              case hw75 => rfl
              case hy75 => intro W hSw; have z0 := pw_cell_below (show Below _ _ W from hSw) q1; have z1 := pw_cell_below (show Below _ _ W from hSw) q2; have z2 := pw_cell_below (show Below _ _ W from hSw) q4; have z3 := pw_cell_below (show Below _ _ W from hSw) q5; have z4 := pw_cell_below (show Below _ _ W from hSw) q7; have z5 := pw_cell_below (show Below _ _ W from hSw) q8; go_simp; (try with_reducible rfl)
              simp only [Act.put, List.setIfInBounds_toArray, List.set_cons_zero, List.set_cons_succ]
              refine take_ (oi := ?oi76) (i := 6) (N := some 65) (v := ?v76) ?hi76 (by kernel_rfl) (by kernel_rfl) (by kernel_rfl) ?hQ76 ?hN76 (Or.inl ⟨?hw76, ?hy76⟩) hHeld ?rest76
              case hi76 => simp only [List.getElem?_toArray, List.getElem?_cons_zero, List.getElem?_cons_succ]; rfl
              case hQ76 => exact fun _ _ _ h => h
              case hN76 => rfl
              case hw76 => rfl
              case hy76 => intro W hSw; have z0 := pw_cell_below (show Below _ _ W from hSw) q1; have z1 := pw_cell_below (show Below _ _ W from hSw) q2; have z2 := pw_cell_below (show Below _ _ W from hSw) q4; have z3 := pw_cell_below (show Below _ _ W from hSw) q5; have z4 := pw_cell_below (show Below _ _ W from hSw) q7; have z5 := pw_cell_below (show Below _ _ W from hSw) q8; go_simp; (try with_reducible rfl)
              simp only [Act.put, List.setIfInBounds_toArray, List.set_cons_zero, List.set_cons_succ]
              refine wpAnyH_ready (rs := [4, 8]) (by kernel_rfl) (by simp) ?_
              refine AllReadyH.cons (o := ?oi77) ?hi77 (fun K hK => ?step77) ?more77
              case hi77 => simp only [List.getElem?_toArray, List.getElem?_cons_zero, List.getElem?_cons_succ]; rfl
              case step77 =>
                refine goes_ (N := some 63) Tryz.func51 (by kernel_rfl) rfl #[.float .f64 a.1, .float .f64 b.1] (by rfl) rfl rfl (by (try simp only [List.map_toArray, List.map_cons, List.map_nil]); rfl) ?_
                refine (M3.out _).mono ?_
                rintro e v4 ⟨rfl, hb⟩
                first | (have hq9 := (hb.block v6.heap.size (by simp)).trans (heap_alloc_new v6 (tb 0 0 0)); have q9 := tpc hq9; have q9a := q9.1; have q9b := q9.2.1; have q9c := q9.2.2; clear q9; have q9d := frozen_of_row v4 v6.heap.size 0 _ _ hq9; have q9e := frozen_of_row v4 v6.heap.size 1 _ _ hq9; have q9f := frozen_of_row v4 v6.heap.size 2 _ _ hq9) | skip
                refine ⟨_, rfl, ?_⟩
                refine hK.out _ _ (below_step hHeld hb) (fun hHeld => ?_)
                clear hK K hb
                simp only [Act.put, List.setIfInBounds_toArray, List.set_cons_zero, List.set_cons_succ]
                refine take_ (oi := ?oi78) (i := 7) (N := some 66) (v := ?v78) ?hi78 (by kernel_rfl) (by kernel_rfl) (by kernel_rfl) ?hQ78 ?hN78 (Or.inl ⟨?hw78, ?hy78⟩) hHeld ?rest78
                case hi78 => simp only [List.getElem?_toArray, List.getElem?_cons_zero, List.getElem?_cons_succ]; rfl
                case hQ78 => exact fun _ _ _ h => h
                case hN78 => rfl
                case hw78 => rfl
                case hy78 => intro W hSw; have z0 := pw_cell_below (show Below _ _ W from hSw) q1; have z1 := pw_cell_below (show Below _ _ W from hSw) q2; have z2 := pw_cell_below (show Below _ _ W from hSw) q4; have z3 := pw_cell_below (show Below _ _ W from hSw) q5; have z4 := pw_cell_below (show Below _ _ W from hSw) q7; have z5 := pw_cell_below (show Below _ _ W from hSw) q8; go_simp; (try with_reducible rfl)
                simp only [Act.put, List.setIfInBounds_toArray, List.set_cons_zero, List.set_cons_succ]
                refine wpAnyH_ready (rs := [8]) (by kernel_rfl) (by simp) ?_
                refine AllReadyH.cons (o := ?oi79) ?hi79 (fun K hK => ?step79) AllReadyH.nil
                case hi79 => simp only [List.getElem?_toArray, List.getElem?_cons_zero, List.getElem?_cons_succ]; rfl
                go_simp
                refine hK.out _ _ (by repeat (first | (with_reducible exact hHeld) | (with_reducible assumption) | (with_reducible exact Below.refl _ _) | (with_reducible apply below_alloc) | (with_reducible apply below_drew) | (with_reducible refine below_set ?_ (by first | exact Nat.le_refl _ | simp)))) (fun hHeld => ?_)
                clear hK K
                (try simp only [Act.put, List.setIfInBounds_toArray, List.set_cons_zero, List.set_cons_succ])
                refine wpAnyH_ready (rs := [9]) (by kernel_rfl) (by simp) ?_
                refine AllReadyH.cons (o := ?oi80) ?hi80 (fun K hK => ?step80) AllReadyH.nil
                case hi80 => simp only [List.getElem?_toArray, List.getElem?_cons_zero, List.getElem?_cons_succ]; rfl
                go_simp
                refine hK.out _ _ (by repeat (first | (with_reducible exact hHeld) | (with_reducible assumption) | (with_reducible exact Below.refl _ _) | (with_reducible apply below_alloc) | (with_reducible apply below_drew) | (with_reducible refine below_set ?_ (by first | exact Nat.le_refl _ | simp)))) (fun hHeld => ?_)
                clear hK K
                refine wpAnyH_done (by kernel_rfl) ?_ _
                refine NoPanic.normal ?_
                have hN := heap_alloc_new v4 (tb 0 r3 p1)
                generalize v4.alloc (tb 0 r3 p1) = V9 at *
                generalize v4.heap.size = gN at *
                have hA2 := (hHeld.block _ (blk_lt hA)).trans hA
                have hB2 := (hHeld.block _ (blk_lt hB)).trans hB
                have f1V2 := (hHeld.block _ (blk_lt f1V)).trans f1V
                have f2V2 := (hHeld.block _ (blk_lt f2V)).trans f2V
                have HBV2 := Aside0.mk (below_step HBV.out hHeld)
                clear hA hB f1V f2V HBV q0 q1 q2 q3 q4 q5 q6 q7 q8 hHeld
                have hA := hA2
                have hB := hB2
                have f1V := f1V2
                have f2V := f2V2
                have HBV := HBV2
                clear hA2 hB2 f1V2 f2V2 HBV2
                obtain ⟨q0, q1, q2⟩ := tpc hA
                obtain ⟨q3, q4, q5⟩ := tpc hB
                obtain ⟨q6, q7, q8⟩ := tpc f1V
                obtain ⟨n0, n1, n2⟩ := tpc hN
                have haxc := axes_cross (px := x.1) (py := x.2) (hAx.resolve_left D0.out) D0.out (by have := D1.out; omega) (by have := D2.out; omega) (by have := D3.out; omega)
                have CR2 := Aside0.mk (CR.out haxc.1 haxc.2)
                clear haxc CR AX M1 M2 M3
                go_wp2_with fail
                refine (CR2.out _).mono ?_
                rintro e v11 ⟨rfl, hb11⟩
                have hHeld := hb11
                have HBz := Aside0.mk (below_step HBV.out hHeld)
                have f1z := (hHeld.block _ (blk_lt f1V)).trans f1V
                have f2z := (hHeld.block _ (blk_lt f2V)).trans f2V
                clear hA hB f1V f2V HBV q0 q1 q2 q3 q4 q5 q6 q7 q8 hHeld
                clear hN hb11 n0 n1 n2
                go_wp2_with fail
                go_roundw
                case rel => exact ⟨k + 1, by go_num, by rw [cr_yes (hHit.symm.trans (by rw [show decide (ay = b_y) = false from decide_eq_false D0.out, show decide (x.2 ≤ min ay b_y) = false from decide_eq_false (by have := D1.out; omega), show decide (max ay b_y < x.2) = false from decide_eq_false (by have := D2.out; omega), show decide (max ax bx ≤ x.1) = false from decide_eq_false (by have := D3.out; omega)]; rfl))], by omega, HBz, f1z, f2z⟩
                case measure => simp [intOf]; omega
              refine AllReadyH.cons (o := ?oi81) ?hi81 (fun K hK => ?step81) AllReadyH.nil
              case hi81 => simp only [List.getElem?_toArray, List.getElem?_cons_zero, List.getElem?_cons_succ]; rfl
              go_simp
              refine hK.out _ _ (by repeat (first | (with_reducible exact hHeld) | (with_reducible assumption) | (with_reducible exact Below.refl _ _) | (with_reducible apply below_alloc) | (with_reducible apply below_drew) | (with_reducible refine below_set ?_ (by first | exact Nat.le_refl _ | simp)))) (fun hHeld => ?_)
              clear hK K
              (try simp only [Act.put, List.setIfInBounds_toArray, List.set_cons_zero, List.set_cons_succ])
              refine wpAnyH_ready (rs := [4]) (by kernel_rfl) (by simp) ?_
              refine AllReadyH.cons (o := ?oi82) ?hi82 (fun K hK => ?step82) AllReadyH.nil
              case hi82 => simp only [List.getElem?_toArray, List.getElem?_cons_zero, List.getElem?_cons_succ]; rfl
              refine goes_ (N := some 63) Tryz.func51 (by kernel_rfl) rfl #[.float .f64 a.1, .float .f64 b.1] (by rfl) rfl rfl (by (try simp only [List.map_toArray, List.map_cons, List.map_nil]); rfl) ?_
              refine (M3.out _).mono ?_
              rintro e v4 ⟨rfl, hb⟩
              first | (have hq9 := (hb.block v6.heap.size (by simp)).trans (heap_alloc_new v6 (tb 0 0 0)); have q9 := tpc hq9; have q9a := q9.1; have q9b := q9.2.1; have q9c := q9.2.2; clear q9; have q9d := frozen_of_row v4 v6.heap.size 0 _ _ hq9; have q9e := frozen_of_row v4 v6.heap.size 1 _ _ hq9; have q9f := frozen_of_row v4 v6.heap.size 2 _ _ hq9) | skip
              refine ⟨_, rfl, ?_⟩
              refine hK.out _ _ (below_step hHeld hb) (fun hHeld => ?_)
              clear hK K hb
              simp only [Act.put, List.setIfInBounds_toArray, List.set_cons_zero, List.set_cons_succ]
              refine take_ (oi := ?oi83) (i := 7) (N := some 66) (v := ?v83) ?hi83 (by kernel_rfl) (by kernel_rfl) (by kernel_rfl) ?hQ83 ?hN83 (Or.inl ⟨?hw83, ?hy83⟩) hHeld ?rest83
              case hi83 => simp only [List.getElem?_toArray, List.getElem?_cons_zero, List.getElem?_cons_succ]; rfl
              case hQ83 => exact fun _ _ _ h => h
              case hN83 => rfl
              case hw83 => rfl
              case hy83 => intro W hSw; have z0 := pw_cell_below (show Below _ _ W from hSw) q1; have z1 := pw_cell_below (show Below _ _ W from hSw) q2; have z2 := pw_cell_below (show Below _ _ W from hSw) q4; have z3 := pw_cell_below (show Below _ _ W from hSw) q5; have z4 := pw_cell_below (show Below _ _ W from hSw) q7; have z5 := pw_cell_below (show Below _ _ W from hSw) q8; go_simp; (try with_reducible rfl)
              simp only [Act.put, List.setIfInBounds_toArray, List.set_cons_zero, List.set_cons_succ]
              refine wpAnyH_ready (rs := [9]) (by kernel_rfl) (by simp) ?_
              refine AllReadyH.cons (o := ?oi84) ?hi84 (fun K hK => ?step84) AllReadyH.nil
              case hi84 => simp only [List.getElem?_toArray, List.getElem?_cons_zero, List.getElem?_cons_succ]; rfl
              go_simp
              refine hK.out _ _ (by repeat (first | (with_reducible exact hHeld) | (with_reducible assumption) | (with_reducible exact Below.refl _ _) | (with_reducible apply below_alloc) | (with_reducible apply below_drew) | (with_reducible refine below_set ?_ (by first | exact Nat.le_refl _ | simp)))) (fun hHeld => ?_)
              clear hK K
              refine wpAnyH_done (by kernel_rfl) ?_ _
              refine NoPanic.normal ?_
              have hN := set3 (s' := 0) (a' := r3) (b' := p1) hq9
              generalize ((v4.setCell ⟨v6.heap.size, 0, none⟩ (.int .u32 0)).setCell ⟨v6.heap.size, 1, none⟩ (.float .f64 r3)).setCell ⟨v6.heap.size, 2, none⟩ (.float .f64 p1) = V9 at *
              clear hq9 q9a q9b q9c q9d q9e q9f
              have hA2 := (hHeld.block _ (blk_lt hA)).trans hA
              have hB2 := (hHeld.block _ (blk_lt hB)).trans hB
              have f1V2 := (hHeld.block _ (blk_lt f1V)).trans f1V
              have f2V2 := (hHeld.block _ (blk_lt f2V)).trans f2V
              have HBV2 := Aside0.mk (below_step HBV.out hHeld)
              clear hA hB f1V f2V HBV q0 q1 q2 q3 q4 q5 q6 q7 q8 hHeld
              have hA := hA2
              have hB := hB2
              have f1V := f1V2
              have f2V := f2V2
              have HBV := HBV2
              clear hA2 hB2 f1V2 f2V2 HBV2
              obtain ⟨q0, q1, q2⟩ := tpc hA
              obtain ⟨q3, q4, q5⟩ := tpc hB
              obtain ⟨q6, q7, q8⟩ := tpc f1V
              obtain ⟨n0, n1, n2⟩ := tpc hN
              have haxc := axes_cross (px := x.1) (py := x.2) (hAx.resolve_left D0.out) D0.out (by have := D1.out; omega) (by have := D2.out; omega) (by have := D3.out; omega)
              have CR2 := Aside0.mk (CR.out haxc.1 haxc.2)
              clear haxc CR AX M1 M2 M3
              go_wp2_with fail
              refine (CR2.out _).mono ?_
              rintro e v11 ⟨rfl, hb11⟩
              have hHeld := hb11
              have HBz := Aside0.mk (below_step HBV.out hHeld)
              have f1z := (hHeld.block _ (blk_lt f1V)).trans f1V
              have f2z := (hHeld.block _ (blk_lt f2V)).trans f2V
              clear hA hB f1V f2V HBV q0 q1 q2 q3 q4 q5 q6 q7 q8 hHeld
              clear hN hb11 n0 n1 n2
              go_wp2_with fail
              go_roundw
              case rel => exact ⟨k + 1, by go_num, by rw [cr_yes (hHit.symm.trans (by rw [show decide (ay = b_y) = false from decide_eq_false D0.out, show decide (x.2 ≤ min ay b_y) = false from decide_eq_false (by have := D1.out; omega), show decide (max ay b_y < x.2) = false from decide_eq_false (by have := D2.out; omega), show decide (max ax bx ≤ x.1) = false from decide_eq_false (by have := D3.out; omega)]; rfl))], by omega, HBz, f1z, f2z⟩
              case measure => simp [intOf]; omega
    · go_wp2
      go_ret
      exact ⟨by rw [show l.length - 1 = k by omega]; rfl, HB.out⟩
end Go.Proofs.YtjhgmpeoagndjaaGreat.GE
