/-
  Contracts of spec.GEStraight, spec.GECross at small whole numbers. Condition: whole numbers from -1,000 to 1,000.
-/
import Derived.Test.YtjhgmpeoagndjaaGEa
import Derived.Deep.RegionHeld3
namespace Go.Proofs.Ytjhgmpeoagndjaa.GE
open Go.RowKit Go.Proofs.YtjhgmpeoagndjaaW.PrintWords Go.Proofs.YtjhgmpeoagndjaaW.PrintLast Go.Proofs.YtjhgmpeoagndjaaW.PrintMore
open Go.Proofs.Ytjhgmpeoagndjaa.Flo
set_option linter.unusedVariables false
set_option linter.unusedSimpArgs false
set_option maxRecDepth 100000
set_option maxHeartbeats 400000

/-- Four boxes. -/
def B4 (w W : World) (o1 o2 o3 o4 : Obj) : Prop := W.heap[w.heap.size]? = some o1 ∧ W.heap[w.heap.size + 1]? = some o2 ∧ W.heap[w.heap.size + 1 + 1]? = some o3 ∧ W.heap[w.heap.size + 1 + 1 + 1]? = some o4 ∧ Below w.heap.size w W
theorem B4.first {w w2 : World} {o1 o2 o3 o4 : Obj} (hb : Below ((((w.alloc o1).alloc o2).alloc o3).alloc o4).heap.size ((((w.alloc o1).alloc o2).alloc o3).alloc o4) w2) : B4 w w2 o1 o2 o3 o4 := four hb
theorem B4.later {w W W1 : World} {o1 o2 o3 o4 : Obj} (h : B4 w W o1 o2 o3 o4) (hb : Below W.heap.size W W1) : B4 w W1 o1 o2 o3 o4 :=
  ⟨(hb.block _ (blk_lt h.1)).trans h.1, (hb.block _ (blk_lt h.2.1)).trans h.2.1, (hb.block _ (blk_lt h.2.2.1)).trans h.2.2.1, (hb.block _ (blk_lt h.2.2.2.1)).trans h.2.2.2.1, below_step h.2.2.2.2 hb⟩
abbrev pt (a b : Nat) : Value := .agg #[.float .f64 a, .float .f64 b]
abbrev po (a b : Nat) : Obj := .cells #[.float .f64 a, .float .f64 b] 24 (0, 0)
theorem geStraight_ok (a0 a1 b0 b1 c0 c1 d0 d1 : Nat) (ax ay bx b_y cx cy dx dy : Int) (h1 : Sm a0 ax) (h2 : Sm a1 ay) (h3 : Sm b0 bx) (h4 : Sm b1 b_y) (h5 : Sm c0 cx) (h6 : Sm c1 cy) (h7 : Sm d0 dx) (h8 : Sm d1 dy) (w : World) :
    Calls Try.prog 5 #[pt a0 a1, pt b0 b1, pt c0 c1, pt d0 d1] w fun e w' => e = .returned (.bool (decide (side ax ay bx b_y cx cy = 0) && decide (side ax ay bx b_y dx dy = 0))) ∧ Below w.heap.size w w' := by
  obtain ⟨r1, g1, hC1⟩ := geSide_ok a0 a1 b0 b1 c0 c1 ax ay bx b_y cx cy h1 h2 h3 h4 h5 h6
  obtain ⟨r2, g2, hC2⟩ := geSide_ok a0 a1 b0 b1 d0 d1 ax ay bx b_y dx dy h1 h2 h3 h4 h7 h8
  have e1 := eq_b g1 isF_zero
  have e2 := eq_b g2 isF_zero
  generalize decide (side ax ay bx b_y cx cy = 0) = k1 at *
  generalize decide (side ax ay bx b_y dx dy = 0) = k2 at *
  have H1 := Aside0.mk hC1
  have H2 := Aside0.mk hC2
  clear hC1 hC2 g1 g2 h1 h2 h3 h4 h5 h6 h7 h8
  cases k1
  · go_enter Try.func5, Try.ntmps5
    go_wp2_with fail
    refine (H1.out _).mono ?_
    rintro e w2 ⟨rfl, hb⟩
    have K := Aside0.mk (B4.first hb)
    clear hb
    go_wp2_with fail
    go_ret
    exact ⟨rfl, K.out.2.2.2.2⟩
  · cases k2
    all_goals
      go_enter Try.func5, Try.ntmps5
      go_wp2_with fail
      refine (H1.out _).mono ?_
      rintro e w2 ⟨rfl, hb⟩
      have K := Aside0.mk (B4.first hb)
      obtain ⟨k1, k2, k3, k4, kb⟩ := K.out
      obtain ⟨x1, x2⟩ := ptc k1
      obtain ⟨x3, x4⟩ := ptc k2
      obtain ⟨x7, x8⟩ := ptc k4
      clear hb k1 k2 k3 k4 kb
      go_wp2_with fail
      refine (H2.out _).mono ?_
      rintro e w3 ⟨rfl, hb⟩
      have K3 := Aside0.mk (K.out.later hb)
      clear hb K
      go_wp2_with fail
      go_ret
      exact ⟨rfl, K3.out.2.2.2.2⟩
def crossI (ax ay bx b_y cx cy dx dy : Int) : Bool := onI ax ay cx cy dx dy || (onI bx b_y cx cy dx dy || (onI cx cy ax ay bx b_y || (onI dx dy ax ay bx b_y || (apart (side ax ay bx b_y cx cy) (side ax ay bx b_y dx dy) && apart (side cx cy dx dy ax ay) (side cx cy dx dy bx b_y)))))
section
variable {P : Program} {md : Region.Mode} {ops : Array Oper} {Q : Exit → Act → World → Prop} {S : World → Prop}
/-- An operation taken first, its place by name. -/
theorem take_ {i : Nat} {oi : Oper} {N : Option Tmp} {v : Value} {fuel : Nat} {listed : Array Bool} {a : Act} {w : World} (hi : ops[i]? = some oi)
    (hs : Region.noSelect ops = true) (hf : Region.free md ops listed i = true) (hr : (Region.ready md ops listed).contains i = true)
    (hQ : ∀ c a w, Q (.panic c) (a.put oi.dst v) w → Q (.panic c) a w) (hN : oi.dst = N) (hy : YieldsIf P ops S oi v a) (hS : S w)
    (h : wpAnyH P md ops Q S fuel (listed.setIfInBounds i true) (a.put N v) w) : wpAnyH P md ops Q S (fuel + 1) listed a w := by
  subst hN
  exact wpAnyH_take hi hs hf hr hQ hy hS h
end
theorem specCross_ok (a0 a1 b0 b1 c0 c1 d0 d1 : Nat) (ax ay bx b_y cx cy dx dy : Int) (h1 : Sm a0 ax) (h2 : Sm a1 ay) (h3 : Sm b0 bx) (h4 : Sm b1 b_y) (h5 : Sm c0 cx) (h6 : Sm c1 cy) (h7 : Sm d0 dx) (h8 : Sm d1 dy) (w : World) :
    Calls Try.prog 7 #[pt a0 a1, pt b0 b1, pt c0 c1, pt d0 d1] w fun e w' => e = .returned (.bool (crossI ax ay bx b_y cx cy dx dy)) ∧ Below w.heap.size w w' := by
  obtain ⟨r1, g1, hC1⟩ := geSide_ok a0 a1 b0 b1 c0 c1 ax ay bx b_y cx cy h1 h2 h3 h4 h5 h6
  obtain ⟨r2, g2, hC2⟩ := geSide_ok a0 a1 b0 b1 d0 d1 ax ay bx b_y dx dy h1 h2 h3 h4 h7 h8
  obtain ⟨r3, g3, hC3⟩ := geSide_ok c0 c1 d0 d1 a0 a1 cx cy dx dy ax ay h5 h6 h7 h8 h1 h2
  obtain ⟨r4, g4, hC4⟩ := geSide_ok c0 c1 d0 d1 b0 b1 cx cy dx dy bx b_y h5 h6 h7 h8 h3 h4
  have hO1 := fun w => geOn_ok a0 a1 c0 c1 d0 d1 ax ay cx cy dx dy h1 h2 h5 h6 h7 h8 w
  have hO2 := fun w => geOn_ok b0 b1 c0 c1 d0 d1 bx b_y cx cy dx dy h3 h4 h5 h6 h7 h8 w
  have hO3 := fun w => geOn_ok c0 c1 a0 a1 b0 b1 cx cy ax ay bx b_y h5 h6 h1 h2 h3 h4 w
  have hO4 := fun w => geOn_ok d0 d1 a0 a1 b0 b1 dx dy ax ay bx b_y h7 h8 h1 h2 h3 h4 w
  have hP1 := fun w => geApart_ok r1 r2 _ _ g1 g2 w
  have hP2 := fun w => geApart_ok r3 r4 _ _ g3 g4 w
  unfold crossI
  generalize onI ax ay cx cy dx dy = o1 at *
  generalize onI bx b_y cx cy dx dy = o2 at *
  generalize onI cx cy ax ay bx b_y = o3 at *
  generalize onI dx dy ax ay bx b_y = o4 at *
  generalize apart (side ax ay bx b_y cx cy) (side ax ay bx b_y dx dy) = p1 at *
  generalize apart (side cx cy dx dy ax ay) (side cx cy dx dy bx b_y) = p2 at *
  have HC1 := Aside0.mk hC1
  have HC2 := Aside0.mk hC2
  have HC3 := Aside0.mk hC3
  have HC4 := Aside0.mk hC4
  have HO1 := Aside0.mk hO1
  have HO2 := Aside0.mk hO2
  have HO3 := Aside0.mk hO3
  have HO4 := Aside0.mk hO4
  have HP1 := Aside0.mk hP1
  have HP2 := Aside0.mk hP2
  clear hC1 hC2 hC3 hC4 hO1 hO2 hO3 hO4 hP1 hP2 g1 g2 g3 g4 h1 h2 h3 h4 h5 h6 h7 h8
  cases o1
  case true =>
    go_enter Try.func7, Try.ntmps7
    go_wp2_with fail
    refine (HO1.out _).mono ?_
    rintro e w2 ⟨rfl, hb⟩
    have K := Aside0.mk (B4.first hb)
    clear hb
    go_wp2_with fail
    go_ret
    exact ⟨rfl, K.out.2.2.2.2⟩
  case false =>
    cases o2
    case true =>
      go_enter Try.func7, Try.ntmps7
      go_wp2_with fail
      refine (HO1.out _).mono ?_
      rintro e w2 ⟨rfl, hb⟩
      have K := Aside0.mk (B4.first hb)
      obtain ⟨k1, k2, k3, k4, kb⟩ := K.out
      obtain ⟨x1, x2⟩ := ptc k1
      obtain ⟨x3, x4⟩ := ptc k2
      obtain ⟨x5, x6⟩ := ptc k3
      obtain ⟨x7, x8⟩ := ptc k4
      clear hb k1 k2 k3 k4 kb
      go_wp2_with fail
      refine (HO2.out _).mono ?_
      rintro e w3 ⟨rfl, hb⟩
      replace K := Aside0.mk (K.out.later hb)
      clear x1 x2 x3 x4 x5 x6 x7 x8
      clear hb
      go_wp2_with fail
      go_ret
      exact ⟨rfl, K.out.2.2.2.2⟩
    case false =>
      cases o3
      case true =>
        go_enter Try.func7, Try.ntmps7
        go_wp2_with fail
        refine (HO1.out _).mono ?_
        rintro e w2 ⟨rfl, hb⟩
        have K := Aside0.mk (B4.first hb)
        obtain ⟨k1, k2, k3, k4, kb⟩ := K.out
        obtain ⟨x1, x2⟩ := ptc k1
        obtain ⟨x3, x4⟩ := ptc k2
        obtain ⟨x5, x6⟩ := ptc k3
        obtain ⟨x7, x8⟩ := ptc k4
        clear hb k1 k2 k3 k4 kb
        go_wp2_with fail
        refine (HO2.out _).mono ?_
        rintro e w3 ⟨rfl, hb⟩
        replace K := Aside0.mk (K.out.later hb)
        clear x1 x2 x3 x4 x5 x6 x7 x8
        obtain ⟨k1, k2, k3, k4, kb⟩ := K.out
        obtain ⟨x1, x2⟩ := ptc k1
        obtain ⟨x3, x4⟩ := ptc k2
        obtain ⟨x5, x6⟩ := ptc k3
        obtain ⟨x7, x8⟩ := ptc k4
        clear hb k1 k2 k3 k4 kb
        go_wp2_with fail
        refine (HO3.out _).mono ?_
        rintro e w4 ⟨rfl, hb⟩
        replace K := Aside0.mk (K.out.later hb)
        clear x1 x2 x3 x4 x5 x6 x7 x8
        clear hb
        go_wp2_with fail
        go_ret
        exact ⟨rfl, K.out.2.2.2.2⟩
      case false =>
        cases o4
        case true =>
          go_enter Try.func7, Try.ntmps7
          go_wp2_with fail
          refine (HO1.out _).mono ?_
          rintro e w2 ⟨rfl, hb⟩
          have K := Aside0.mk (B4.first hb)
          obtain ⟨k1, k2, k3, k4, kb⟩ := K.out
          obtain ⟨x1, x2⟩ := ptc k1
          obtain ⟨x3, x4⟩ := ptc k2
          obtain ⟨x5, x6⟩ := ptc k3
          obtain ⟨x7, x8⟩ := ptc k4
          clear hb k1 k2 k3 k4 kb
          go_wp2_with fail
          refine (HO2.out _).mono ?_
          rintro e w3 ⟨rfl, hb⟩
          replace K := Aside0.mk (K.out.later hb)
          clear x1 x2 x3 x4 x5 x6 x7 x8
          obtain ⟨k1, k2, k3, k4, kb⟩ := K.out
          obtain ⟨x1, x2⟩ := ptc k1
          obtain ⟨x3, x4⟩ := ptc k2
          obtain ⟨x5, x6⟩ := ptc k3
          obtain ⟨x7, x8⟩ := ptc k4
          clear hb k1 k2 k3 k4 kb
          go_wp2_with fail
          refine (HO3.out _).mono ?_
          rintro e w4 ⟨rfl, hb⟩
          replace K := Aside0.mk (K.out.later hb)
          clear x1 x2 x3 x4 x5 x6 x7 x8
          obtain ⟨k1, k2, k3, k4, kb⟩ := K.out
          obtain ⟨x1, x2⟩ := ptc k1
          obtain ⟨x3, x4⟩ := ptc k2
          obtain ⟨x5, x6⟩ := ptc k3
          obtain ⟨x7, x8⟩ := ptc k4
          clear hb k1 k2 k3 k4 kb
          go_wp2_with fail
          refine (HO4.out _).mono ?_
          rintro e w5 ⟨rfl, hb⟩
          replace K := Aside0.mk (K.out.later hb)
          clear x1 x2 x3 x4 x5 x6 x7 x8
          obtain ⟨k1, k2, k3, k4, kb⟩ := K.out
          obtain ⟨x1, x2⟩ := ptc k1
          obtain ⟨x3, x4⟩ := ptc k2
          obtain ⟨x5, x6⟩ := ptc k3
          obtain ⟨x7, x8⟩ := ptc k4
          clear hb k1 k2 k3 k4
          clear kb
          go_wp2_with fail
          go_ret
          exact ⟨rfl, K.out.2.2.2.2⟩
        case false =>
          cases p1
          case false =>
            go_enter Try.func7, Try.ntmps7
            go_wp2_with fail
            refine (HO1.out _).mono ?_
            rintro e w2 ⟨rfl, hb⟩
            have K := Aside0.mk (B4.first hb)
            obtain ⟨k1, k2, k3, k4, kb⟩ := K.out
            obtain ⟨x1, x2⟩ := ptc k1
            obtain ⟨x3, x4⟩ := ptc k2
            obtain ⟨x5, x6⟩ := ptc k3
            obtain ⟨x7, x8⟩ := ptc k4
            clear hb k1 k2 k3 k4 kb
            go_wp2_with fail
            refine (HO2.out _).mono ?_
            rintro e w3 ⟨rfl, hb⟩
            replace K := Aside0.mk (K.out.later hb)
            clear x1 x2 x3 x4 x5 x6 x7 x8
            obtain ⟨k1, k2, k3, k4, kb⟩ := K.out
            obtain ⟨x1, x2⟩ := ptc k1
            obtain ⟨x3, x4⟩ := ptc k2
            obtain ⟨x5, x6⟩ := ptc k3
            obtain ⟨x7, x8⟩ := ptc k4
            clear hb k1 k2 k3 k4 kb
            go_wp2_with fail
            refine (HO3.out _).mono ?_
            rintro e w4 ⟨rfl, hb⟩
            replace K := Aside0.mk (K.out.later hb)
            clear x1 x2 x3 x4 x5 x6 x7 x8
            obtain ⟨k1, k2, k3, k4, kb⟩ := K.out
            obtain ⟨x1, x2⟩ := ptc k1
            obtain ⟨x3, x4⟩ := ptc k2
            obtain ⟨x5, x6⟩ := ptc k3
            obtain ⟨x7, x8⟩ := ptc k4
            clear hb k1 k2 k3 k4 kb
            go_wp2_with fail
            refine (HO4.out _).mono ?_
            rintro e w5 ⟨rfl, hb⟩
            replace K := Aside0.mk (K.out.later hb)
            clear x1 x2 x3 x4 x5 x6 x7 x8
            obtain ⟨k1, k2, k3, k4, kb⟩ := K.out
            obtain ⟨x1, x2⟩ := ptc k1
            obtain ⟨x3, x4⟩ := ptc k2
            obtain ⟨x5, x6⟩ := ptc k3
            obtain ⟨x7, x8⟩ := ptc k4
            clear hb k1 k2 k3 k4
            go_wp2
            refine wp_region_noPanic ?_
            refine wp_region_held_drew (S := fun W => W.cell? ⟨w.heap.size, 0, none⟩ = some (.float .f64 a0) ∧ W.cell? ⟨w.heap.size, 1, none⟩ = some (.float .f64 a1) ∧ W.cell? ⟨w.heap.size + 1, 0, none⟩ = some (.float .f64 b0) ∧ W.cell? ⟨w.heap.size + 1, 1, none⟩ = some (.float .f64 b1) ∧ W.cell? ⟨w.heap.size + 1 + 1, 0, none⟩ = some (.float .f64 c0) ∧ W.cell? ⟨w.heap.size + 1 + 1, 1, none⟩ = some (.float .f64 c1) ∧ W.cell? ⟨w.heap.size + 1 + 1 + 1, 0, none⟩ = some (.float .f64 d0) ∧ W.cell? ⟨w.heap.size + 1 + 1 + 1, 1, none⟩ = some (.float .f64 d1) ∧ Below w.heap.size w W) (by kernel_rfl) ?_ (fun hHeld => ?_)
            · (first | (go_split_ands; refine ⟨?_, ?_, ?_, ?_, ?_, ?_, ?_, ?_, ?_⟩ <;> assumption) | (go_split_ands; exact ⟨pw_cell_below hb (by assumption), pw_cell_below hb (by assumption), pw_cell_below hb (by assumption), pw_cell_below hb (by assumption), pw_cell_below hb (by assumption), pw_cell_below hb (by assumption), pw_cell_below hb (by assumption), pw_cell_below hb (by assumption), below_step (by assumption) hb⟩) | (refine ⟨?_, ?_, ?_, ?_, ?_, ?_, ?_, ?_, ?_⟩; (iterate 8 (focus (first | assumption | (simp [go_sem]; done) | (simp [go_sem, *]; done)))); repeat (first | (with_reducible exact kb) | (with_reducible apply below_drew) | (with_reducible apply below_alloc))))
            refine take_ (oi := ?oi1) (i := 0) (N := some 31) (v := ?v1) ?hi1 (by kernel_rfl) (by kernel_rfl) (by kernel_rfl) ?hQ1 ?hN1 (Or.inl ⟨?hw1, ?hy1⟩) (by assumption) ?rest1
            case hi1 => simp only [List.getElem?_toArray, List.getElem?_cons_zero, List.getElem?_cons_succ]; rfl
            case hQ1 => exact fun _ _ _ h => h
            case hN1 => rfl
            case hw1 => rfl
            case hy1 => intro W hSw; (try dsimp only at hSw); go_split_ands; go_simp; (try with_reducible rfl)
            simp only [Act.put, List.setIfInBounds_toArray, List.set_cons_zero, List.set_cons_succ]
            refine take_ (oi := ?oi2) (i := 1) (N := some 32) (v := ?v2) ?hi2 (by kernel_rfl) (by kernel_rfl) (by kernel_rfl) ?hQ2 ?hN2 (Or.inl ⟨?hw2, ?hy2⟩) (by assumption) ?rest2
            case hi2 => simp only [List.getElem?_toArray, List.getElem?_cons_zero, List.getElem?_cons_succ]; rfl
            case hQ2 => exact fun _ _ _ h => h
            case hN2 => rfl
            case hw2 => rfl
            case hy2 => intro W hSw; (try dsimp only at hSw); go_split_ands; go_simp; (try with_reducible rfl)
            simp only [Act.put, List.setIfInBounds_toArray, List.set_cons_zero, List.set_cons_succ]
            refine take_ (oi := ?oi3) (i := 2) (N := some 33) (v := ?v3) ?hi3 (by kernel_rfl) (by kernel_rfl) (by kernel_rfl) ?hQ3 ?hN3 (Or.inl ⟨?hw3, ?hy3⟩) (by assumption) ?rest3
            case hi3 => simp only [List.getElem?_toArray, List.getElem?_cons_zero, List.getElem?_cons_succ]; rfl
            case hQ3 => exact fun _ _ _ h => h
            case hN3 => rfl
            case hw3 => rfl
            case hy3 => intro W hSw; (try dsimp only at hSw); go_split_ands; go_simp; (try with_reducible rfl)
            simp only [Act.put, List.setIfInBounds_toArray, List.set_cons_zero, List.set_cons_succ]
            refine take_ (oi := ?oi4) (i := 4) (N := some 35) (v := ?v4) ?hi4 (by kernel_rfl) (by kernel_rfl) (by kernel_rfl) ?hQ4 ?hN4 (Or.inl ⟨?hw4, ?hy4⟩) (by assumption) ?rest4
            case hi4 => simp only [List.getElem?_toArray, List.getElem?_cons_zero, List.getElem?_cons_succ]; rfl
            case hQ4 => exact fun _ _ _ h => h
            case hN4 => rfl
            case hw4 => rfl
            case hy4 => intro W hSw; (try dsimp only at hSw); go_split_ands; go_simp; (try with_reducible rfl)
            simp only [Act.put, List.setIfInBounds_toArray, List.set_cons_zero, List.set_cons_succ]
            refine take_ (oi := ?oi5) (i := 5) (N := some 36) (v := ?v5) ?hi5 (by kernel_rfl) (by kernel_rfl) (by kernel_rfl) ?hQ5 ?hN5 (Or.inl ⟨?hw5, ?hy5⟩) (by assumption) ?rest5
            case hi5 => simp only [List.getElem?_toArray, List.getElem?_cons_zero, List.getElem?_cons_succ]; rfl
            case hQ5 => exact fun _ _ _ h => h
            case hN5 => rfl
            case hw5 => rfl
            case hy5 => intro W hSw; (try dsimp only at hSw); go_split_ands; go_simp; (try with_reducible rfl)
            simp only [Act.put, List.setIfInBounds_toArray, List.set_cons_zero, List.set_cons_succ]
            refine take_ (oi := ?oi6) (i := 6) (N := some 37) (v := ?v6) ?hi6 (by kernel_rfl) (by kernel_rfl) (by kernel_rfl) ?hQ6 ?hN6 (Or.inl ⟨?hw6, ?hy6⟩) (by assumption) ?rest6
            case hi6 => simp only [List.getElem?_toArray, List.getElem?_cons_zero, List.getElem?_cons_succ]; rfl
            case hQ6 => exact fun _ _ _ h => h
            case hN6 => rfl
            case hw6 => rfl
            case hy6 => intro W hSw; (try dsimp only at hSw); go_split_ands; go_simp; (try with_reducible rfl)
            simp only [Act.put, List.setIfInBounds_toArray, List.set_cons_zero, List.set_cons_succ]
            refine wpAnyH_ready (rs := [3]) (by kernel_rfl) (by simp) ?_
            refine AllReadyH.cons (o := ?oi7) ?hi7 (fun K hK => ?step7) AllReadyH.nil
            case hi7 => simp only [List.getElem?_toArray, List.getElem?_cons_zero, List.getElem?_cons_succ]; rfl
            refine goes_ (N := some 34) Try.func12 (by kernel_rfl) rfl #[pt a0 a1, pt b0 b1, pt c0 c1] (by rfl) rfl rfl (by (try simp only [List.map_toArray, List.map_cons, List.map_nil]); rfl) ?_
            refine (HC1.out _).mono ?_
            rintro e v3 ⟨rfl, hb⟩
            refine ⟨_, rfl, ?_⟩
            refine hK.out _ _ ?_ (fun hHeld => ?_)
            · (first | (go_split_ands; refine ⟨?_, ?_, ?_, ?_, ?_, ?_, ?_, ?_, ?_⟩ <;> assumption) | (go_split_ands; exact ⟨pw_cell_below hb (by assumption), pw_cell_below hb (by assumption), pw_cell_below hb (by assumption), pw_cell_below hb (by assumption), pw_cell_below hb (by assumption), pw_cell_below hb (by assumption), pw_cell_below hb (by assumption), pw_cell_below hb (by assumption), below_step (by assumption) hb⟩) | (refine ⟨?_, ?_, ?_, ?_, ?_, ?_, ?_, ?_, ?_⟩; (iterate 8 (focus (first | assumption | (simp [go_sem]; done) | (simp [go_sem, *]; done)))); repeat (first | (with_reducible exact kb) | (with_reducible apply below_drew) | (with_reducible apply below_alloc))))
            clear hK K
            simp only [Act.put, List.setIfInBounds_toArray, List.set_cons_zero, List.set_cons_succ]
            refine wpAnyH_ready (rs := [7]) (by kernel_rfl) (by simp) ?_
            refine AllReadyH.cons (o := ?oi8) ?hi8 (fun K hK => ?step8) AllReadyH.nil
            case hi8 => simp only [List.getElem?_toArray, List.getElem?_cons_zero, List.getElem?_cons_succ]; rfl
            refine goes_ (N := some 38) Try.func12 (by kernel_rfl) rfl #[pt a0 a1, pt b0 b1, pt d0 d1] (by rfl) rfl rfl (by (try simp only [List.map_toArray, List.map_cons, List.map_nil]); rfl) ?_
            refine (HC2.out _).mono ?_
            rintro e v7 ⟨rfl, hb⟩
            refine ⟨_, rfl, ?_⟩
            refine hK.out _ _ ?_ (fun hHeld => ?_)
            · (first | (go_split_ands; refine ⟨?_, ?_, ?_, ?_, ?_, ?_, ?_, ?_, ?_⟩ <;> assumption) | (go_split_ands; exact ⟨pw_cell_below hb (by assumption), pw_cell_below hb (by assumption), pw_cell_below hb (by assumption), pw_cell_below hb (by assumption), pw_cell_below hb (by assumption), pw_cell_below hb (by assumption), pw_cell_below hb (by assumption), pw_cell_below hb (by assumption), below_step (by assumption) hb⟩) | (refine ⟨?_, ?_, ?_, ?_, ?_, ?_, ?_, ?_, ?_⟩; (iterate 8 (focus (first | assumption | (simp [go_sem]; done) | (simp [go_sem, *]; done)))); repeat (first | (with_reducible exact kb) | (with_reducible apply below_drew) | (with_reducible apply below_alloc))))
            clear hK K
            simp only [Act.put, List.setIfInBounds_toArray, List.set_cons_zero, List.set_cons_succ]
            refine wpAnyH_ready (rs := [8]) (by kernel_rfl) (by simp) ?_
            refine AllReadyH.cons (o := ?oi9) ?hi9 (fun K hK => ?step9) AllReadyH.nil
            case hi9 => simp only [List.getElem?_toArray, List.getElem?_cons_zero, List.getElem?_cons_succ]; rfl
            refine goes_ (N := some 39) Try.func16 (by kernel_rfl) rfl #[.float .f64 r1, .float .f64 r2] (by rfl) rfl rfl (by (try simp only [List.map_toArray, List.map_cons, List.map_nil]); rfl) ?_
            refine (HP1.out _).mono ?_
            rintro e v8 ⟨rfl, hb⟩
            refine ⟨_, rfl, ?_⟩
            refine hK.out _ _ ?_ (fun hHeld => ?_)
            · (first | (go_split_ands; refine ⟨?_, ?_, ?_, ?_, ?_, ?_, ?_, ?_, ?_⟩ <;> assumption) | (go_split_ands; exact ⟨pw_cell_below hb (by assumption), pw_cell_below hb (by assumption), pw_cell_below hb (by assumption), pw_cell_below hb (by assumption), pw_cell_below hb (by assumption), pw_cell_below hb (by assumption), pw_cell_below hb (by assumption), pw_cell_below hb (by assumption), below_step (by assumption) hb⟩) | (refine ⟨?_, ?_, ?_, ?_, ?_, ?_, ?_, ?_, ?_⟩; (iterate 8 (focus (first | assumption | (simp [go_sem]; done) | (simp [go_sem, *]; done)))); repeat (first | (with_reducible exact kb) | (with_reducible apply below_drew) | (with_reducible apply below_alloc))))
            clear hK K
            simp only [Act.put, List.setIfInBounds_toArray, List.set_cons_zero, List.set_cons_succ]
            refine take_ (oi := ?oi10) (i := 9) (N := some 40) (v := ?v10) ?hi10 (by kernel_rfl) (by kernel_rfl) (by kernel_rfl) ?hQ10 ?hN10 (Or.inl ⟨?hw10, ?hy10⟩) (by assumption) ?rest10
            case hi10 => simp only [List.getElem?_toArray, List.getElem?_cons_zero, List.getElem?_cons_succ]; rfl
            case hQ10 => exact fun _ _ _ h => h
            case hN10 => rfl
            case hw10 => rfl
            case hy10 => intro W hSw; (try dsimp only at hSw); go_split_ands; go_simp; (try with_reducible rfl)
            simp only [Act.put, List.setIfInBounds_toArray, List.set_cons_zero, List.set_cons_succ]
            refine take_ (oi := ?oi11) (i := 10) (N := some 41) (v := undef) ?hi11 (by kernel_rfl) (by kernel_rfl) (by kernel_rfl) ?hQ11 ?hN11 (Or.inr ⟨?hw11, rfl⟩) (by assumption) ?rest11
            case hi11 => simp only [List.getElem?_toArray, List.getElem?_cons_zero, List.getElem?_cons_succ]; rfl
            case hQ11 => exact fun _ _ _ h => h
            case hN11 => rfl
            case hw11 => rfl
            simp only [Act.put, List.setIfInBounds_toArray, List.set_cons_zero, List.set_cons_succ]
            refine take_ (oi := ?oi12) (i := 11) (N := some 42) (v := undef) ?hi12 (by kernel_rfl) (by kernel_rfl) (by kernel_rfl) ?hQ12 ?hN12 (Or.inr ⟨?hw12, rfl⟩) (by assumption) ?rest12
            case hi12 => simp only [List.getElem?_toArray, List.getElem?_cons_zero, List.getElem?_cons_succ]; rfl
            case hQ12 => exact fun _ _ _ h => h
            case hN12 => rfl
            case hw12 => rfl
            simp only [Act.put, List.setIfInBounds_toArray, List.set_cons_zero, List.set_cons_succ]
            refine take_ (oi := ?oi13) (i := 12) (N := some 43) (v := undef) ?hi13 (by kernel_rfl) (by kernel_rfl) (by kernel_rfl) ?hQ13 ?hN13 (Or.inr ⟨?hw13, rfl⟩) (by assumption) ?rest13
            case hi13 => simp only [List.getElem?_toArray, List.getElem?_cons_zero, List.getElem?_cons_succ]; rfl
            case hQ13 => exact fun _ _ _ h => h
            case hN13 => rfl
            case hw13 => rfl
            simp only [Act.put, List.setIfInBounds_toArray, List.set_cons_zero, List.set_cons_succ]
            refine take_ (oi := ?oi14) (i := 13) (N := some 44) (v := undef) ?hi14 (by kernel_rfl) (by kernel_rfl) (by kernel_rfl) ?hQ14 ?hN14 (Or.inr ⟨?hw14, rfl⟩) (by assumption) ?rest14
            case hi14 => simp only [List.getElem?_toArray, List.getElem?_cons_zero, List.getElem?_cons_succ]; rfl
            case hQ14 => exact fun _ _ _ h => h
            case hN14 => rfl
            case hw14 => rfl
            simp only [Act.put, List.setIfInBounds_toArray, List.set_cons_zero, List.set_cons_succ]
            refine take_ (oi := ?oi15) (i := 14) (N := some 45) (v := undef) ?hi15 (by kernel_rfl) (by kernel_rfl) (by kernel_rfl) ?hQ15 ?hN15 (Or.inr ⟨?hw15, rfl⟩) (by assumption) ?rest15
            case hi15 => simp only [List.getElem?_toArray, List.getElem?_cons_zero, List.getElem?_cons_succ]; rfl
            case hQ15 => exact fun _ _ _ h => h
            case hN15 => rfl
            case hw15 => rfl
            simp only [Act.put, List.setIfInBounds_toArray, List.set_cons_zero, List.set_cons_succ]
            refine take_ (oi := ?oi16) (i := 15) (N := some 46) (v := undef) ?hi16 (by kernel_rfl) (by kernel_rfl) (by kernel_rfl) ?hQ16 ?hN16 (Or.inr ⟨?hw16, rfl⟩) (by assumption) ?rest16
            case hi16 => simp only [List.getElem?_toArray, List.getElem?_cons_zero, List.getElem?_cons_succ]; rfl
            case hQ16 => exact fun _ _ _ h => h
            case hN16 => rfl
            case hw16 => rfl
            simp only [Act.put, List.setIfInBounds_toArray, List.set_cons_zero, List.set_cons_succ]
            refine take_ (oi := ?oi17) (i := 16) (N := some 47) (v := undef) ?hi17 (by kernel_rfl) (by kernel_rfl) (by kernel_rfl) ?hQ17 ?hN17 (Or.inr ⟨?hw17, rfl⟩) (by assumption) ?rest17
            case hi17 => simp only [List.getElem?_toArray, List.getElem?_cons_zero, List.getElem?_cons_succ]; rfl
            case hQ17 => exact fun _ _ _ h => h
            case hN17 => rfl
            case hw17 => rfl
            simp only [Act.put, List.setIfInBounds_toArray, List.set_cons_zero, List.set_cons_succ]
            refine take_ (oi := ?oi18) (i := 17) (N := some 48) (v := undef) ?hi18 (by kernel_rfl) (by kernel_rfl) (by kernel_rfl) ?hQ18 ?hN18 (Or.inr ⟨?hw18, rfl⟩) (by assumption) ?rest18
            case hi18 => simp only [List.getElem?_toArray, List.getElem?_cons_zero, List.getElem?_cons_succ]; rfl
            case hQ18 => exact fun _ _ _ h => h
            case hN18 => rfl
            case hw18 => rfl
            simp only [Act.put, List.setIfInBounds_toArray, List.set_cons_zero, List.set_cons_succ]
            refine take_ (oi := ?oi19) (i := 18) (N := some 49) (v := undef) ?hi19 (by kernel_rfl) (by kernel_rfl) (by kernel_rfl) ?hQ19 ?hN19 (Or.inr ⟨?hw19, rfl⟩) (by assumption) ?rest19
            case hi19 => simp only [List.getElem?_toArray, List.getElem?_cons_zero, List.getElem?_cons_succ]; rfl
            case hQ19 => exact fun _ _ _ h => h
            case hN19 => rfl
            case hw19 => rfl
            simp only [Act.put, List.setIfInBounds_toArray, List.set_cons_zero, List.set_cons_succ]
            refine take_ (oi := ?oi20) (i := 19) (N := some 50) (v := ?v20) ?hi20 (by kernel_rfl) (by kernel_rfl) (by kernel_rfl) ?hQ20 ?hN20 (Or.inl ⟨?hw20, ?hy20⟩) (by assumption) ?rest20
            case hi20 => simp only [List.getElem?_toArray, List.getElem?_cons_zero, List.getElem?_cons_succ]; rfl
            case hQ20 => exact fun _ _ _ h => h
            case hN20 => rfl
            case hw20 => rfl
            case hy20 => intro W hSw; (try dsimp only at hSw); go_split_ands; go_simp; (try with_reducible rfl)
            simp only [Act.put, List.setIfInBounds_toArray, List.set_cons_zero, List.set_cons_succ]
            refine take_ (oi := ?oi21) (i := 20) (N := some 8) (v := ?v21) ?hi21 (by kernel_rfl) (by kernel_rfl) (by kernel_rfl) ?hQ21 ?hN21 (Or.inl ⟨?hw21, ?hy21⟩) (by assumption) ?rest21
            case hi21 => simp only [List.getElem?_toArray, List.getElem?_cons_zero, List.getElem?_cons_succ]; rfl
            case hQ21 => exact fun _ _ _ h => h
            case hN21 => rfl
            case hw21 => rfl
            case hy21 => intro W hSw; (try dsimp only at hSw); go_split_ands; go_simp; (try with_reducible rfl)
            simp only [Act.put, List.setIfInBounds_toArray, List.set_cons_zero, List.set_cons_succ]
            refine wpAnyH_done (by kernel_rfl) ?_ _
            refine NoPanic.normal ?_
            go_wp2
            go_ret
            go_split_ands
            exact ⟨rfl, by assumption⟩
          case true =>
            go_enter Try.func7, Try.ntmps7
            go_wp2_with fail
            refine (HO1.out _).mono ?_
            rintro e w2 ⟨rfl, hb⟩
            have K := Aside0.mk (B4.first hb)
            obtain ⟨k1, k2, k3, k4, kb⟩ := K.out
            obtain ⟨x1, x2⟩ := ptc k1
            obtain ⟨x3, x4⟩ := ptc k2
            obtain ⟨x5, x6⟩ := ptc k3
            obtain ⟨x7, x8⟩ := ptc k4
            clear hb k1 k2 k3 k4 kb
            go_wp2_with fail
            refine (HO2.out _).mono ?_
            rintro e w3 ⟨rfl, hb⟩
            replace K := Aside0.mk (K.out.later hb)
            clear x1 x2 x3 x4 x5 x6 x7 x8
            obtain ⟨k1, k2, k3, k4, kb⟩ := K.out
            obtain ⟨x1, x2⟩ := ptc k1
            obtain ⟨x3, x4⟩ := ptc k2
            obtain ⟨x5, x6⟩ := ptc k3
            obtain ⟨x7, x8⟩ := ptc k4
            clear hb k1 k2 k3 k4 kb
            go_wp2_with fail
            refine (HO3.out _).mono ?_
            rintro e w4 ⟨rfl, hb⟩
            replace K := Aside0.mk (K.out.later hb)
            clear x1 x2 x3 x4 x5 x6 x7 x8
            obtain ⟨k1, k2, k3, k4, kb⟩ := K.out
            obtain ⟨x1, x2⟩ := ptc k1
            obtain ⟨x3, x4⟩ := ptc k2
            obtain ⟨x5, x6⟩ := ptc k3
            obtain ⟨x7, x8⟩ := ptc k4
            clear hb k1 k2 k3 k4 kb
            go_wp2_with fail
            refine (HO4.out _).mono ?_
            rintro e w5 ⟨rfl, hb⟩
            replace K := Aside0.mk (K.out.later hb)
            clear x1 x2 x3 x4 x5 x6 x7 x8
            obtain ⟨k1, k2, k3, k4, kb⟩ := K.out
            obtain ⟨x1, x2⟩ := ptc k1
            obtain ⟨x3, x4⟩ := ptc k2
            obtain ⟨x5, x6⟩ := ptc k3
            obtain ⟨x7, x8⟩ := ptc k4
            clear hb k1 k2 k3 k4
            go_wp2
            refine wp_region_noPanic ?_
            refine wp_region_held_drew (S := fun W => W.cell? ⟨w.heap.size, 0, none⟩ = some (.float .f64 a0) ∧ W.cell? ⟨w.heap.size, 1, none⟩ = some (.float .f64 a1) ∧ W.cell? ⟨w.heap.size + 1, 0, none⟩ = some (.float .f64 b0) ∧ W.cell? ⟨w.heap.size + 1, 1, none⟩ = some (.float .f64 b1) ∧ W.cell? ⟨w.heap.size + 1 + 1, 0, none⟩ = some (.float .f64 c0) ∧ W.cell? ⟨w.heap.size + 1 + 1, 1, none⟩ = some (.float .f64 c1) ∧ W.cell? ⟨w.heap.size + 1 + 1 + 1, 0, none⟩ = some (.float .f64 d0) ∧ W.cell? ⟨w.heap.size + 1 + 1 + 1, 1, none⟩ = some (.float .f64 d1) ∧ Below w.heap.size w W) (by kernel_rfl) ?_ (fun hHeld => ?_)
            · (first | (go_split_ands; refine ⟨?_, ?_, ?_, ?_, ?_, ?_, ?_, ?_, ?_⟩ <;> assumption) | (go_split_ands; exact ⟨pw_cell_below hb (by assumption), pw_cell_below hb (by assumption), pw_cell_below hb (by assumption), pw_cell_below hb (by assumption), pw_cell_below hb (by assumption), pw_cell_below hb (by assumption), pw_cell_below hb (by assumption), pw_cell_below hb (by assumption), below_step (by assumption) hb⟩) | (refine ⟨?_, ?_, ?_, ?_, ?_, ?_, ?_, ?_, ?_⟩; (iterate 8 (focus (first | assumption | (simp [go_sem]; done) | (simp [go_sem, *]; done)))); repeat (first | (with_reducible exact kb) | (with_reducible apply below_drew) | (with_reducible apply below_alloc))))
            refine take_ (oi := ?oi22) (i := 0) (N := some 31) (v := ?v22) ?hi22 (by kernel_rfl) (by kernel_rfl) (by kernel_rfl) ?hQ22 ?hN22 (Or.inl ⟨?hw22, ?hy22⟩) (by assumption) ?rest22
            case hi22 => simp only [List.getElem?_toArray, List.getElem?_cons_zero, List.getElem?_cons_succ]; rfl
            case hQ22 => exact fun _ _ _ h => h
            case hN22 => rfl
            case hw22 => rfl
            case hy22 => intro W hSw; (try dsimp only at hSw); go_split_ands; go_simp; (try with_reducible rfl)
            simp only [Act.put, List.setIfInBounds_toArray, List.set_cons_zero, List.set_cons_succ]
            refine take_ (oi := ?oi23) (i := 1) (N := some 32) (v := ?v23) ?hi23 (by kernel_rfl) (by kernel_rfl) (by kernel_rfl) ?hQ23 ?hN23 (Or.inl ⟨?hw23, ?hy23⟩) (by assumption) ?rest23
            case hi23 => simp only [List.getElem?_toArray, List.getElem?_cons_zero, List.getElem?_cons_succ]; rfl
            case hQ23 => exact fun _ _ _ h => h
            case hN23 => rfl
            case hw23 => rfl
            case hy23 => intro W hSw; (try dsimp only at hSw); go_split_ands; go_simp; (try with_reducible rfl)
            simp only [Act.put, List.setIfInBounds_toArray, List.set_cons_zero, List.set_cons_succ]
            refine take_ (oi := ?oi24) (i := 2) (N := some 33) (v := ?v24) ?hi24 (by kernel_rfl) (by kernel_rfl) (by kernel_rfl) ?hQ24 ?hN24 (Or.inl ⟨?hw24, ?hy24⟩) (by assumption) ?rest24
            case hi24 => simp only [List.getElem?_toArray, List.getElem?_cons_zero, List.getElem?_cons_succ]; rfl
            case hQ24 => exact fun _ _ _ h => h
            case hN24 => rfl
            case hw24 => rfl
            case hy24 => intro W hSw; (try dsimp only at hSw); go_split_ands; go_simp; (try with_reducible rfl)
            simp only [Act.put, List.setIfInBounds_toArray, List.set_cons_zero, List.set_cons_succ]
            refine take_ (oi := ?oi25) (i := 4) (N := some 35) (v := ?v25) ?hi25 (by kernel_rfl) (by kernel_rfl) (by kernel_rfl) ?hQ25 ?hN25 (Or.inl ⟨?hw25, ?hy25⟩) (by assumption) ?rest25
            case hi25 => simp only [List.getElem?_toArray, List.getElem?_cons_zero, List.getElem?_cons_succ]; rfl
            case hQ25 => exact fun _ _ _ h => h
            case hN25 => rfl
            case hw25 => rfl
            case hy25 => intro W hSw; (try dsimp only at hSw); go_split_ands; go_simp; (try with_reducible rfl)
            simp only [Act.put, List.setIfInBounds_toArray, List.set_cons_zero, List.set_cons_succ]
            refine take_ (oi := ?oi26) (i := 5) (N := some 36) (v := ?v26) ?hi26 (by kernel_rfl) (by kernel_rfl) (by kernel_rfl) ?hQ26 ?hN26 (Or.inl ⟨?hw26, ?hy26⟩) (by assumption) ?rest26
            case hi26 => simp only [List.getElem?_toArray, List.getElem?_cons_zero, List.getElem?_cons_succ]; rfl
            case hQ26 => exact fun _ _ _ h => h
            case hN26 => rfl
            case hw26 => rfl
            case hy26 => intro W hSw; (try dsimp only at hSw); go_split_ands; go_simp; (try with_reducible rfl)
            simp only [Act.put, List.setIfInBounds_toArray, List.set_cons_zero, List.set_cons_succ]
            refine take_ (oi := ?oi27) (i := 6) (N := some 37) (v := ?v27) ?hi27 (by kernel_rfl) (by kernel_rfl) (by kernel_rfl) ?hQ27 ?hN27 (Or.inl ⟨?hw27, ?hy27⟩) (by assumption) ?rest27
            case hi27 => simp only [List.getElem?_toArray, List.getElem?_cons_zero, List.getElem?_cons_succ]; rfl
            case hQ27 => exact fun _ _ _ h => h
            case hN27 => rfl
            case hw27 => rfl
            case hy27 => intro W hSw; (try dsimp only at hSw); go_split_ands; go_simp; (try with_reducible rfl)
            simp only [Act.put, List.setIfInBounds_toArray, List.set_cons_zero, List.set_cons_succ]
            refine wpAnyH_ready (rs := [3]) (by kernel_rfl) (by simp) ?_
            refine AllReadyH.cons (o := ?oi28) ?hi28 (fun K hK => ?step28) AllReadyH.nil
            case hi28 => simp only [List.getElem?_toArray, List.getElem?_cons_zero, List.getElem?_cons_succ]; rfl
            refine goes_ (N := some 34) Try.func12 (by kernel_rfl) rfl #[pt a0 a1, pt b0 b1, pt c0 c1] (by rfl) rfl rfl (by (try simp only [List.map_toArray, List.map_cons, List.map_nil]); rfl) ?_
            refine (HC1.out _).mono ?_
            rintro e v3 ⟨rfl, hb⟩
            refine ⟨_, rfl, ?_⟩
            refine hK.out _ _ ?_ (fun hHeld => ?_)
            · (first | (go_split_ands; refine ⟨?_, ?_, ?_, ?_, ?_, ?_, ?_, ?_, ?_⟩ <;> assumption) | (go_split_ands; exact ⟨pw_cell_below hb (by assumption), pw_cell_below hb (by assumption), pw_cell_below hb (by assumption), pw_cell_below hb (by assumption), pw_cell_below hb (by assumption), pw_cell_below hb (by assumption), pw_cell_below hb (by assumption), pw_cell_below hb (by assumption), below_step (by assumption) hb⟩) | (refine ⟨?_, ?_, ?_, ?_, ?_, ?_, ?_, ?_, ?_⟩; (iterate 8 (focus (first | assumption | (simp [go_sem]; done) | (simp [go_sem, *]; done)))); repeat (first | (with_reducible exact kb) | (with_reducible apply below_drew) | (with_reducible apply below_alloc))))
            clear hK K
            simp only [Act.put, List.setIfInBounds_toArray, List.set_cons_zero, List.set_cons_succ]
            refine wpAnyH_ready (rs := [7]) (by kernel_rfl) (by simp) ?_
            refine AllReadyH.cons (o := ?oi29) ?hi29 (fun K hK => ?step29) AllReadyH.nil
            case hi29 => simp only [List.getElem?_toArray, List.getElem?_cons_zero, List.getElem?_cons_succ]; rfl
            refine goes_ (N := some 38) Try.func12 (by kernel_rfl) rfl #[pt a0 a1, pt b0 b1, pt d0 d1] (by rfl) rfl rfl (by (try simp only [List.map_toArray, List.map_cons, List.map_nil]); rfl) ?_
            refine (HC2.out _).mono ?_
            rintro e v7 ⟨rfl, hb⟩
            refine ⟨_, rfl, ?_⟩
            refine hK.out _ _ ?_ (fun hHeld => ?_)
            · (first | (go_split_ands; refine ⟨?_, ?_, ?_, ?_, ?_, ?_, ?_, ?_, ?_⟩ <;> assumption) | (go_split_ands; exact ⟨pw_cell_below hb (by assumption), pw_cell_below hb (by assumption), pw_cell_below hb (by assumption), pw_cell_below hb (by assumption), pw_cell_below hb (by assumption), pw_cell_below hb (by assumption), pw_cell_below hb (by assumption), pw_cell_below hb (by assumption), below_step (by assumption) hb⟩) | (refine ⟨?_, ?_, ?_, ?_, ?_, ?_, ?_, ?_, ?_⟩; (iterate 8 (focus (first | assumption | (simp [go_sem]; done) | (simp [go_sem, *]; done)))); repeat (first | (with_reducible exact kb) | (with_reducible apply below_drew) | (with_reducible apply below_alloc))))
            clear hK K
            simp only [Act.put, List.setIfInBounds_toArray, List.set_cons_zero, List.set_cons_succ]
            refine wpAnyH_ready (rs := [8]) (by kernel_rfl) (by simp) ?_
            refine AllReadyH.cons (o := ?oi30) ?hi30 (fun K hK => ?step30) AllReadyH.nil
            case hi30 => simp only [List.getElem?_toArray, List.getElem?_cons_zero, List.getElem?_cons_succ]; rfl
            refine goes_ (N := some 39) Try.func16 (by kernel_rfl) rfl #[.float .f64 r1, .float .f64 r2] (by rfl) rfl rfl (by (try simp only [List.map_toArray, List.map_cons, List.map_nil]); rfl) ?_
            refine (HP1.out _).mono ?_
            rintro e v8 ⟨rfl, hb⟩
            refine ⟨_, rfl, ?_⟩
            refine hK.out _ _ ?_ (fun hHeld => ?_)
            · (first | (go_split_ands; refine ⟨?_, ?_, ?_, ?_, ?_, ?_, ?_, ?_, ?_⟩ <;> assumption) | (go_split_ands; exact ⟨pw_cell_below hb (by assumption), pw_cell_below hb (by assumption), pw_cell_below hb (by assumption), pw_cell_below hb (by assumption), pw_cell_below hb (by assumption), pw_cell_below hb (by assumption), pw_cell_below hb (by assumption), pw_cell_below hb (by assumption), below_step (by assumption) hb⟩) | (refine ⟨?_, ?_, ?_, ?_, ?_, ?_, ?_, ?_, ?_⟩; (iterate 8 (focus (first | assumption | (simp [go_sem]; done) | (simp [go_sem, *]; done)))); repeat (first | (with_reducible exact kb) | (with_reducible apply below_drew) | (with_reducible apply below_alloc))))
            clear hK K
            simp only [Act.put, List.setIfInBounds_toArray, List.set_cons_zero, List.set_cons_succ]
            refine take_ (oi := ?oi31) (i := 9) (N := some 40) (v := ?v31) ?hi31 (by kernel_rfl) (by kernel_rfl) (by kernel_rfl) ?hQ31 ?hN31 (Or.inl ⟨?hw31, ?hy31⟩) (by assumption) ?rest31
            case hi31 => simp only [List.getElem?_toArray, List.getElem?_cons_zero, List.getElem?_cons_succ]; rfl
            case hQ31 => exact fun _ _ _ h => h
            case hN31 => rfl
            case hw31 => rfl
            case hy31 => intro W hSw; (try dsimp only at hSw); go_split_ands; go_simp; (try with_reducible rfl)
            simp only [Act.put, List.setIfInBounds_toArray, List.set_cons_zero, List.set_cons_succ]
            refine take_ (oi := ?oi32) (i := 10) (N := some 41) (v := ?v32) ?hi32 (by kernel_rfl) (by kernel_rfl) (by kernel_rfl) ?hQ32 ?hN32 (Or.inl ⟨?hw32, ?hy32⟩) (by assumption) ?rest32
            case hi32 => simp only [List.getElem?_toArray, List.getElem?_cons_zero, List.getElem?_cons_succ]; rfl
            case hQ32 => exact fun _ _ _ h => h
            case hN32 => rfl
            case hw32 => rfl
            case hy32 => intro W hSw; (try dsimp only at hSw); go_split_ands; go_simp; (try with_reducible rfl)
            simp only [Act.put, List.setIfInBounds_toArray, List.set_cons_zero, List.set_cons_succ]
            refine take_ (oi := ?oi33) (i := 11) (N := some 42) (v := ?v33) ?hi33 (by kernel_rfl) (by kernel_rfl) (by kernel_rfl) ?hQ33 ?hN33 (Or.inl ⟨?hw33, ?hy33⟩) (by assumption) ?rest33
            case hi33 => simp only [List.getElem?_toArray, List.getElem?_cons_zero, List.getElem?_cons_succ]; rfl
            case hQ33 => exact fun _ _ _ h => h
            case hN33 => rfl
            case hw33 => rfl
            case hy33 => intro W hSw; (try dsimp only at hSw); go_split_ands; go_simp; (try with_reducible rfl)
            simp only [Act.put, List.setIfInBounds_toArray, List.set_cons_zero, List.set_cons_succ]
            refine take_ (oi := ?oi34) (i := 12) (N := some 43) (v := ?v34) ?hi34 (by kernel_rfl) (by kernel_rfl) (by kernel_rfl) ?hQ34 ?hN34 (Or.inl ⟨?hw34, ?hy34⟩) (by assumption) ?rest34
            case hi34 => simp only [List.getElem?_toArray, List.getElem?_cons_zero, List.getElem?_cons_succ]; rfl
            case hQ34 => exact fun _ _ _ h => h
            case hN34 => rfl
            case hw34 => rfl
            case hy34 => intro W hSw; (try dsimp only at hSw); go_split_ands; go_simp; (try with_reducible rfl)
            simp only [Act.put, List.setIfInBounds_toArray, List.set_cons_zero, List.set_cons_succ]
            refine take_ (oi := ?oi35) (i := 14) (N := some 45) (v := ?v35) ?hi35 (by kernel_rfl) (by kernel_rfl) (by kernel_rfl) ?hQ35 ?hN35 (Or.inl ⟨?hw35, ?hy35⟩) (by assumption) ?rest35
            case hi35 => simp only [List.getElem?_toArray, List.getElem?_cons_zero, List.getElem?_cons_succ]; rfl
            case hQ35 => exact fun _ _ _ h => h
            case hN35 => rfl
            case hw35 => rfl
            case hy35 => intro W hSw; (try dsimp only at hSw); go_split_ands; go_simp; (try with_reducible rfl)
            simp only [Act.put, List.setIfInBounds_toArray, List.set_cons_zero, List.set_cons_succ]
            refine take_ (oi := ?oi36) (i := 15) (N := some 46) (v := ?v36) ?hi36 (by kernel_rfl) (by kernel_rfl) (by kernel_rfl) ?hQ36 ?hN36 (Or.inl ⟨?hw36, ?hy36⟩) (by assumption) ?rest36
            case hi36 => simp only [List.getElem?_toArray, List.getElem?_cons_zero, List.getElem?_cons_succ]; rfl
            case hQ36 => exact fun _ _ _ h => h
            case hN36 => rfl
            case hw36 => rfl
            case hy36 => intro W hSw; (try dsimp only at hSw); go_split_ands; go_simp; (try with_reducible rfl)
            simp only [Act.put, List.setIfInBounds_toArray, List.set_cons_zero, List.set_cons_succ]
            refine take_ (oi := ?oi37) (i := 16) (N := some 47) (v := ?v37) ?hi37 (by kernel_rfl) (by kernel_rfl) (by kernel_rfl) ?hQ37 ?hN37 (Or.inl ⟨?hw37, ?hy37⟩) (by assumption) ?rest37
            case hi37 => simp only [List.getElem?_toArray, List.getElem?_cons_zero, List.getElem?_cons_succ]; rfl
            case hQ37 => exact fun _ _ _ h => h
            case hN37 => rfl
            case hw37 => rfl
            case hy37 => intro W hSw; (try dsimp only at hSw); go_split_ands; go_simp; (try with_reducible rfl)
            simp only [Act.put, List.setIfInBounds_toArray, List.set_cons_zero, List.set_cons_succ]
            refine wpAnyH_ready (rs := [13]) (by kernel_rfl) (by simp) ?_
            refine AllReadyH.cons (o := ?oi38) ?hi38 (fun K hK => ?step38) AllReadyH.nil
            case hi38 => simp only [List.getElem?_toArray, List.getElem?_cons_zero, List.getElem?_cons_succ]; rfl
            refine goes_ (N := some 44) Try.func12 (by kernel_rfl) rfl #[pt c0 c1, pt d0 d1, pt a0 a1] (by rfl) rfl rfl (by (try simp only [List.map_toArray, List.map_cons, List.map_nil]); rfl) ?_
            refine (HC3.out _).mono ?_
            rintro e v13 ⟨rfl, hb⟩
            refine ⟨_, rfl, ?_⟩
            refine hK.out _ _ ?_ (fun hHeld => ?_)
            · (first | (go_split_ands; refine ⟨?_, ?_, ?_, ?_, ?_, ?_, ?_, ?_, ?_⟩ <;> assumption) | (go_split_ands; exact ⟨pw_cell_below hb (by assumption), pw_cell_below hb (by assumption), pw_cell_below hb (by assumption), pw_cell_below hb (by assumption), pw_cell_below hb (by assumption), pw_cell_below hb (by assumption), pw_cell_below hb (by assumption), pw_cell_below hb (by assumption), below_step (by assumption) hb⟩) | (refine ⟨?_, ?_, ?_, ?_, ?_, ?_, ?_, ?_, ?_⟩; (iterate 8 (focus (first | assumption | (simp [go_sem]; done) | (simp [go_sem, *]; done)))); repeat (first | (with_reducible exact kb) | (with_reducible apply below_drew) | (with_reducible apply below_alloc))))
            clear hK K
            simp only [Act.put, List.setIfInBounds_toArray, List.set_cons_zero, List.set_cons_succ]
            refine wpAnyH_ready (rs := [17]) (by kernel_rfl) (by simp) ?_
            refine AllReadyH.cons (o := ?oi39) ?hi39 (fun K hK => ?step39) AllReadyH.nil
            case hi39 => simp only [List.getElem?_toArray, List.getElem?_cons_zero, List.getElem?_cons_succ]; rfl
            refine goes_ (N := some 48) Try.func12 (by kernel_rfl) rfl #[pt c0 c1, pt d0 d1, pt b0 b1] (by rfl) rfl rfl (by (try simp only [List.map_toArray, List.map_cons, List.map_nil]); rfl) ?_
            refine (HC4.out _).mono ?_
            rintro e v17 ⟨rfl, hb⟩
            refine ⟨_, rfl, ?_⟩
            refine hK.out _ _ ?_ (fun hHeld => ?_)
            · (first | (go_split_ands; refine ⟨?_, ?_, ?_, ?_, ?_, ?_, ?_, ?_, ?_⟩ <;> assumption) | (go_split_ands; exact ⟨pw_cell_below hb (by assumption), pw_cell_below hb (by assumption), pw_cell_below hb (by assumption), pw_cell_below hb (by assumption), pw_cell_below hb (by assumption), pw_cell_below hb (by assumption), pw_cell_below hb (by assumption), pw_cell_below hb (by assumption), below_step (by assumption) hb⟩) | (refine ⟨?_, ?_, ?_, ?_, ?_, ?_, ?_, ?_, ?_⟩; (iterate 8 (focus (first | assumption | (simp [go_sem]; done) | (simp [go_sem, *]; done)))); repeat (first | (with_reducible exact kb) | (with_reducible apply below_drew) | (with_reducible apply below_alloc))))
            clear hK K
            simp only [Act.put, List.setIfInBounds_toArray, List.set_cons_zero, List.set_cons_succ]
            refine wpAnyH_ready (rs := [18]) (by kernel_rfl) (by simp) ?_
            refine AllReadyH.cons (o := ?oi40) ?hi40 (fun K hK => ?step40) AllReadyH.nil
            case hi40 => simp only [List.getElem?_toArray, List.getElem?_cons_zero, List.getElem?_cons_succ]; rfl
            refine goes_ (N := some 49) Try.func16 (by kernel_rfl) rfl #[.float .f64 r3, .float .f64 r4] (by rfl) rfl rfl (by (try simp only [List.map_toArray, List.map_cons, List.map_nil]); rfl) ?_
            refine (HP2.out _).mono ?_
            rintro e v18 ⟨rfl, hb⟩
            refine ⟨_, rfl, ?_⟩
            refine hK.out _ _ ?_ (fun hHeld => ?_)
            · (first | (go_split_ands; refine ⟨?_, ?_, ?_, ?_, ?_, ?_, ?_, ?_, ?_⟩ <;> assumption) | (go_split_ands; exact ⟨pw_cell_below hb (by assumption), pw_cell_below hb (by assumption), pw_cell_below hb (by assumption), pw_cell_below hb (by assumption), pw_cell_below hb (by assumption), pw_cell_below hb (by assumption), pw_cell_below hb (by assumption), pw_cell_below hb (by assumption), below_step (by assumption) hb⟩) | (refine ⟨?_, ?_, ?_, ?_, ?_, ?_, ?_, ?_, ?_⟩; (iterate 8 (focus (first | assumption | (simp [go_sem]; done) | (simp [go_sem, *]; done)))); repeat (first | (with_reducible exact kb) | (with_reducible apply below_drew) | (with_reducible apply below_alloc))))
            clear hK K
            simp only [Act.put, List.setIfInBounds_toArray, List.set_cons_zero, List.set_cons_succ]
            refine take_ (oi := ?oi41) (i := 19) (N := some 50) (v := ?v41) ?hi41 (by kernel_rfl) (by kernel_rfl) (by kernel_rfl) ?hQ41 ?hN41 (Or.inl ⟨?hw41, ?hy41⟩) (by assumption) ?rest41
            case hi41 => simp only [List.getElem?_toArray, List.getElem?_cons_zero, List.getElem?_cons_succ]; rfl
            case hQ41 => exact fun _ _ _ h => h
            case hN41 => rfl
            case hw41 => rfl
            case hy41 => intro W hSw; (try dsimp only at hSw); go_split_ands; go_simp; (try with_reducible rfl)
            simp only [Act.put, List.setIfInBounds_toArray, List.set_cons_zero, List.set_cons_succ]
            refine take_ (oi := ?oi42) (i := 20) (N := some 8) (v := ?v42) ?hi42 (by kernel_rfl) (by kernel_rfl) (by kernel_rfl) ?hQ42 ?hN42 (Or.inl ⟨?hw42, ?hy42⟩) (by assumption) ?rest42
            case hi42 => simp only [List.getElem?_toArray, List.getElem?_cons_zero, List.getElem?_cons_succ]; rfl
            case hQ42 => exact fun _ _ _ h => h
            case hN42 => rfl
            case hw42 => rfl
            case hy42 => intro W hSw; (try dsimp only at hSw); go_split_ands; go_simp; (try with_reducible rfl)
            simp only [Act.put, List.setIfInBounds_toArray, List.set_cons_zero, List.set_cons_succ]
            refine wpAnyH_done (by kernel_rfl) ?_ _
            refine NoPanic.normal ?_
            go_wp2
            go_ret
            go_split_ands
            exact ⟨rfl, by assumption⟩
end Go.Proofs.Ytjhgmpeoagndjaa.GE
