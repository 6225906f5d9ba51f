/-
  Contracts of isWithin and isIntersects at a point and a polygon of one line along the axes. Condition: small whole numbers.
-/
import Derived.Test.YtjhgmpeoagndjaaGreatGWn
import Derived.Test.YtjhgmpeoagndjaaGreatGWp
namespace Go.Proofs.YtjhgmpeoagndjaaGreat.GE
open Go.RowKit Go.Proofs.YtjhgmpeoagndjaaGreatW.PrintWords Go.Proofs.YtjhgmpeoagndjaaGreatW.PrintLast Go.Proofs.YtjhgmpeoagndjaaGreatW.PrintMore
open Go.Proofs.YtjhgmpeoagndjaaGreat.Flo
set_option linter.unusedVariables false
set_option linter.unusedSimpArgs false
set_option maxRecDepth 100000
set_option maxHeartbeats 4000000

@[go_sem] theorem ta50_50 (u : Value) (w : World) : (Instr.typeAssert (.iface 50 u) 43 50 true).run Tryz.prog w = .ok (.tuple #[u, .bool true]) w := by kernel_rfl
@[go_sem] theorem ta50_58 (u : Value) (w : World) : (Instr.typeAssert (.iface 58 u) 43 50 true).run Tryz.prog w = .ok (.tuple #[.agg #[.int .u32 0, .float .f64 0, .float .f64 0], .bool false]) w := by kernel_rfl
@[go_sem] theorem ta54_58 (u : Value) (w : World) : (Instr.typeAssert (.iface 58 u) 43 54 true).run Tryz.prog w = .ok (.tuple #[.agg #[.int .u32 0, .slice none 0 0], .bool false]) w := by kernel_rfl
@[go_sem] theorem ta58_58 (u : Value) (w : World) : (Instr.typeAssert (.iface 58 u) 43 58 true).run Tryz.prog w = .ok (.tuple #[u, .bool true]) w := by kernel_rfl
def bndL (x : Int × Int) (l : List (Nat × Nat)) (L : List (Int × Int)) : Bool := (List.range (l.length - 1)).any (onB x L)
def crL (x : Int × Int) (l : List (Nat × Nat)) (L : List (Int × Int)) : Bool := crB x L (l.length - 1)
/-- A point and one line of points along the axes, of small whole numbers. -/
def Ask (W : World) (v : Value) (p0 p1 : Nat) (x : Int × Int) (l : List (Nat × Nat)) (L : List (Int × Int)) : Prop :=
  Is l L ∧ (Sw p0 x.1 ∧ Sw p1 x.2) ∧ (∀ k, k + 1 < l.length → (L.getD k (0, 0)).2 = (L.getD (k + 1) (0, 0)).2 ∨ (L.getD k (0, 0)).1 = (L.getD (k + 1) (0, 0)).1) ∧ (l.length ≤ 1000 ∧ 0 < l.length) ∧ Line W v l
theorem Ask.keep {W W' : World} {v : Value} {p0 p1 : Nat} {x : Int × Int} {l : List (Nat × Nat)} {L : List (Int × Int)} (h : Ask W v p0 p1 x l L) (hb : Below W.heap.size W W') : Ask W' v p0 p1 x l L :=
  ⟨h.1, h.2.1, h.2.2.1, h.2.2.2.1, h.2.2.2.2.keep hb⟩
theorem Ask.form {W : World} {v : Value} {p0 p1 : Nat} {x : Int × Int} {l : List (Nat × Nat)} {L : List (Int × Int)} (h : Ask W v p0 p1 x l L) : ∃ g c, v = .slice (some ⟨g, 0, none⟩) 1 c := by
  obtain ⟨g, c, gp, cp, rfl, -⟩ := h.2.2.2.2
  exact ⟨g, c, rfl⟩
/-- Contract of isPointIntersectPolyBoundary. -/
theorem bound_ok (s : Int) (p0 p1 : Nat) (v : Value) (x : Int × Int) (l : List (Nat × Nat)) (L : List (Int × Int)) (w : World) (h : Ask w v p0 p1 x l L) :
    Calls Tryz.prog 40 #[tp s p0 p1, .agg #[.int .u32 0, v]] w fun e w' => e = .returned (.bool (bndL x l L)) ∧ Below w.heap.size w w' := by
  obtain ⟨hI, hp, hax, hl, g, c, gp, cp, rfl, g0, g1, hP⟩ := h
  have H := Aside0.mk (fun W (h : Below w.heap.size w W) => line_ok s p0 p1 gp cp x l L hI hp hl.1 W (hP.keep h))
  have G := Aside0.mk (And.intro g0 g1)
  unfold bndL
  generalize (List.range (l.length - 1)).any (onB x L) = r at *
  clear hI hp hP g0 g1 hax hl
  go_enter Tryz.func40, Tryz.ntmps40
  go_wp2
  go_loopw [10] (fun t10 wr => (t10 = .int .i64 0 ∨ t10 = .int .i64 1 ∧ Aside0 (r = false)) ∧ Aside0 (Below w.heap.size w wr) ∧ wr.heap[w.heap.size]? = some (tb s p0 p1)) (fun t10 _ => 1 - (intOf t10).toNat)
  case atStart =>
    obtain ⟨h1, h2⟩ := two_made w (tb s p0 p1) (.cells #[.int .u32 0, .slice (some ⟨g, 0, none⟩) 1 c] 58)
    exact ⟨.inl rfl, ⟨by repeat (first | (with_reducible exact Below.refl _ _) | (with_reducible apply below_alloc))⟩, h1⟩
  case round =>
    obtain ⟨rfl | ⟨rfl, hr⟩, HB, f1⟩ := hrel
    · have z0 := pw_cell_below HB.out G.out.1
      have z1 := pw_cell_below HB.out G.out.2
      obtain ⟨x0, x1, x2⟩ := tpc f1
      have HA := Aside0.mk (below_alloc (Below.refl wr.heap.size wr) (.cells #[.int .u32 0, .slice (some ⟨gp, 0, none⟩) l.length cp] 54))
      have HB1 := Aside0.mk (below_step HB.out HA.out)
      have H2 := Aside0.mk (H.out _ HB1.out)
      have n0 := pw_cell_below HA.out x0
      have n1 := pw_cell_below HA.out x1
      have n2 := pw_cell_below HA.out x2
      have hlt := blk_lt f1
      clear H
      go_wp2_with fail
      refine (H2.out).mono ?_
      rintro e w2 ⟨rfl, hb⟩
      have HBz := Aside0.mk (below_step HB1.out hb)
      have f1z := (((HA.out.trans (hb.mono HA.out.size)).block _ (blk_lt f1))).trans f1
      clear hb HA H2 HB1 HB f1 x0 x1 x2 z0 z1 n0 n1 n2
      cases r
      · go_wp2_with fail
        go_roundw
        case rel => exact ⟨.inr ⟨rfl, ⟨by first | rfl | trivial⟩⟩, HBz, f1z⟩
        case measure => decide
      · go_wp2_with fail
        go_ret
        exact ⟨rfl, HBz.out⟩
    · have hr := hr.out
      subst hr
      go_wp2
      go_ret
      exact ⟨rfl, HB.out⟩
/-- Contract of isPointIntersectPolyInterior. -/
theorem inner_ok (s : Int) (p0 p1 : Nat) (v : Value) (x : Int × Int) (l : List (Nat × Nat)) (L : List (Int × Int)) (w : World) (h : Ask w v p0 p1 x l L) :
    Calls Tryz.prog 41 #[tp s p0 p1, .agg #[.int .u32 0, v]] w fun e w' => e = .returned (.bool (crL x l L)) ∧ Below w.heap.size w w' := by
  obtain ⟨hI, hp, hax, hl, g, c, gp, cp, rfl, g0, g1, hP⟩ := h
  have H := Aside0.mk (fun W (h : Below w.heap.size w W) => within_ok s p0 p1 gp cp x l L hI hp hax hl.1 hl.2 W (hP.keep h))
  have G := Aside0.mk (And.intro g0 g1)
  unfold crL
  generalize crB x L (l.length - 1) = r at *
  clear hI hp hP g0 g1 hax hl
  go_enter Tryz.func41, Tryz.ntmps41
  have h2 := two_made w (tb s p0 p1) (.cells #[.int .u32 0, .slice (some ⟨g, 0, none⟩) 1 c] 58)
  have hB := below_alloc (below_alloc (Below.refl w.heap.size w) (tb s p0 p1)) (.cells #[.int .u32 0, .slice (some ⟨g, 0, none⟩) 1 c] 58)
  go_wp2
  generalize (w.alloc (tb s p0 p1)).alloc (.cells #[.int .u32 0, .slice (some ⟨g, 0, none⟩) 1 c] 58) = V at *
  obtain ⟨f1, f2⟩ := h2
  have f1 : V.heap[w.heap.size]? = _ := f1
  have f2 : V.heap[w.heap.size + 1]? = _ := f2
  obtain ⟨q0, q1, q2⟩ := tpc f1
  have q3 : V.cell? ⟨w.heap.size + 1, 1, none⟩ = some (.slice (some ⟨g, 0, none⟩) 1 c) := by rw [Lib.cell_of_heap f2]; rfl
  have q7 : V.cell? ⟨w.heap.size + 1, 0, none⟩ = some (.int .u32 0) := by rw [Lib.cell_of_heap f2]; rfl
  have q4 := pw_cell_below hB G.out.1
  have q5 := pw_cell_below hB G.out.2
  have HBV := Aside0.mk hB
  clear hB G
  refine wp_region_noPanic ?_
  refine wp_region_held_drew (S := fun W => Below V.heap.size V W) (by kernel_rfl) ?_ (fun hHeld => ?_)
  · exact below_drew (Below.refl _ _)
  refine take_ (oi := ?oi1) (i := 0) (N := some 6) (v := ?v1) ?hi1 (by kernel_rfl) (by kernel_rfl) (by kernel_rfl) ?hQ1 ?hN1 (Or.inl ⟨?hw1, ?hy1⟩) hHeld ?rest1
  case hi1 => simp only [List.getElem?_toArray, List.getElem?_cons_zero, List.getElem?_cons_succ]; rfl
  case hQ1 => exact fun _ _ _ h => h
  case hN1 => rfl
  case hw1 => rfl
  case hy1 => intro W hSw; have z0 := pw_cell_below (show Below _ _ W from hSw) q0; have z1 := pw_cell_below (show Below _ _ W from hSw) q1; have z2 := pw_cell_below (show Below _ _ W from hSw) q2; have z3 := pw_cell_below (show Below _ _ W from hSw) q3; have z4 := pw_cell_below (show Below _ _ W from hSw) q4; have z5 := pw_cell_below (show Below _ _ W from hSw) q5; have z6 := pw_cell_below (show Below _ _ W from hSw) q7; go_simp; (try with_reducible rfl)
  simp only [Act.put, List.setIfInBounds_toArray, List.set_cons_zero, List.set_cons_succ]
  refine take_ (oi := ?oi2) (i := 1) (N := some 7) (v := ?v2) ?hi2 (by kernel_rfl) (by kernel_rfl) (by kernel_rfl) ?hQ2 ?hN2 (Or.inl ⟨?hw2, ?hy2⟩) hHeld ?rest2
  case hi2 => simp only [List.getElem?_toArray, List.getElem?_cons_zero, List.getElem?_cons_succ]; rfl
  case hQ2 => exact fun _ _ _ h => h
  case hN2 => rfl
  case hw2 => rfl
  case hy2 => intro W hSw; have z0 := pw_cell_below (show Below _ _ W from hSw) q0; have z1 := pw_cell_below (show Below _ _ W from hSw) q1; have z2 := pw_cell_below (show Below _ _ W from hSw) q2; have z3 := pw_cell_below (show Below _ _ W from hSw) q3; have z4 := pw_cell_below (show Below _ _ W from hSw) q4; have z5 := pw_cell_below (show Below _ _ W from hSw) q5; have z6 := pw_cell_below (show Below _ _ W from hSw) q7; go_simp; (try with_reducible rfl)
  simp only [Act.put, List.setIfInBounds_toArray, List.set_cons_zero, List.set_cons_succ]
  refine take_ (oi := ?oi3) (i := 2) (N := some 8) (v := ?v3) ?hi3 (by kernel_rfl) (by kernel_rfl) (by kernel_rfl) ?hQ3 ?hN3 (Or.inl ⟨?hw3, ?hy3⟩) hHeld ?rest3
  case hi3 => simp only [List.getElem?_toArray, List.getElem?_cons_zero, List.getElem?_cons_succ]; rfl
  case hQ3 => exact fun _ _ _ h => h
  case hN3 => rfl
  case hw3 => rfl
  case hy3 => intro W hSw; have z0 := pw_cell_below (show Below _ _ W from hSw) q0; have z1 := pw_cell_below (show Below _ _ W from hSw) q1; have z2 := pw_cell_below (show Below _ _ W from hSw) q2; have z3 := pw_cell_below (show Below _ _ W from hSw) q3; have z4 := pw_cell_below (show Below _ _ W from hSw) q4; have z5 := pw_cell_below (show Below _ _ W from hSw) q5; have z6 := pw_cell_below (show Below _ _ W from hSw) q7; go_simp; (try with_reducible rfl)
  simp only [Act.put, List.setIfInBounds_toArray, List.set_cons_zero, List.set_cons_succ]
  refine take_ (oi := ?oi4) (i := 3) (N := some 9) (v := ?v4) ?hi4 (by kernel_rfl) (by kernel_rfl) (by kernel_rfl) ?hQ4 ?hN4 (Or.inl ⟨?hw4, ?hy4⟩) hHeld ?rest4
  case hi4 => simp only [List.getElem?_toArray, List.getElem?_cons_zero, List.getElem?_cons_succ]; rfl
  case hQ4 => exact fun _ _ _ h => h
  case hN4 => rfl
  case hw4 => rfl
  case hy4 => intro W hSw; have z0 := pw_cell_below (show Below _ _ W from hSw) q0; have z1 := pw_cell_below (show Below _ _ W from hSw) q1; have z2 := pw_cell_below (show Below _ _ W from hSw) q2; have z3 := pw_cell_below (show Below _ _ W from hSw) q3; have z4 := pw_cell_below (show Below _ _ W from hSw) q4; have z5 := pw_cell_below (show Below _ _ W from hSw) q5; have z6 := pw_cell_below (show Below _ _ W from hSw) q7; go_simp; (try with_reducible rfl)
  simp only [Act.put, List.setIfInBounds_toArray, List.set_cons_zero, List.set_cons_succ]
  refine take_ (oi := ?oi5) (i := 4) (N := some 10) (v := ?v5) ?hi5 (by kernel_rfl) (by kernel_rfl) (by kernel_rfl) ?hQ5 ?hN5 (Or.inl ⟨?hw5, ?hy5⟩) hHeld ?rest5
  case hi5 => simp only [List.getElem?_toArray, List.getElem?_cons_zero, List.getElem?_cons_succ]; rfl
  case hQ5 => exact fun _ _ _ h => h
  case hN5 => rfl
  case hw5 => rfl
  case hy5 => intro W hSw; have z0 := pw_cell_below (show Below _ _ W from hSw) q0; have z1 := pw_cell_below (show Below _ _ W from hSw) q1; have z2 := pw_cell_below (show Below _ _ W from hSw) q2; have z3 := pw_cell_below (show Below _ _ W from hSw) q3; have z4 := pw_cell_below (show Below _ _ W from hSw) q4; have z5 := pw_cell_below (show Below _ _ W from hSw) q5; have z6 := pw_cell_below (show Below _ _ W from hSw) q7; go_simp; (try with_reducible rfl)
  simp only [Act.put, List.setIfInBounds_toArray, List.set_cons_zero, List.set_cons_succ]
  refine wpAnyH_ready (rs := [5]) (by kernel_rfl) (by simp) ?_
  refine AllReadyH.cons (o := ?oi6) ?hi6 (fun K hK => ?step6) AllReadyH.nil
  case hi6 => simp only [List.getElem?_toArray, List.getElem?_cons_zero, List.getElem?_cons_succ]; rfl
  refine goes_ (N := some 11) Tryz.func48 (by kernel_rfl) rfl #[tp s p0 p1, .agg #[.int .u32 0, .slice (some ⟨gp, 0, none⟩) l.length cp]] (by rfl) rfl rfl (by (try simp only [List.map_toArray, List.map_cons, List.map_nil]); rfl) ?_
  refine (H.out _ (below_step HBV.out hHeld)).mono ?_
  rintro e v5 ⟨rfl, hb⟩
  refine ⟨_, rfl, ?_⟩
  refine hK.out _ _ (below_step hHeld hb) (fun hHeld => ?_)
  clear hK K hb
  simp only [Act.put, List.setIfInBounds_toArray, List.set_cons_zero, List.set_cons_succ]
  refine take_ (oi := ?oi7) (i := 6) (N := some 12) (v := ?v7) ?hi7 (by kernel_rfl) (by kernel_rfl) (by kernel_rfl) ?hQ7 ?hN7 (Or.inl ⟨?hw7, ?hy7⟩) hHeld ?rest7
  case hi7 => simp only [List.getElem?_toArray, List.getElem?_cons_zero, List.getElem?_cons_succ]; rfl
  case hQ7 => exact fun _ _ _ h => h
  case hN7 => rfl
  case hw7 => rfl
  case hy7 => intro W hSw; have z0 := pw_cell_below (show Below _ _ W from hSw) q0; have z1 := pw_cell_below (show Below _ _ W from hSw) q1; have z2 := pw_cell_below (show Below _ _ W from hSw) q2; have z3 := pw_cell_below (show Below _ _ W from hSw) q3; have z4 := pw_cell_below (show Below _ _ W from hSw) q4; have z5 := pw_cell_below (show Below _ _ W from hSw) q5; have z6 := pw_cell_below (show Below _ _ W from hSw) q7; go_simp; (try with_reducible rfl)
  simp only [Act.put, List.setIfInBounds_toArray, List.set_cons_zero, List.set_cons_succ]
  refine wpAnyH_done (by kernel_rfl) ?_ _
  refine NoPanic.normal ?_
  have HBz := Aside0.mk (below_step HBV.out hHeld)
  have q3z := pw_cell_below hHeld q3
  have q7z := pw_cell_below hHeld q7
  clear q0 q1 q2 q3 q4 q5 q7 f1 f2 hHeld HBV H
  cases r
  · go_wp2_with fail
    go_ret
    exact ⟨rfl, HBz.out⟩
  · go_wp2_with fail
    go_loopw [5] (fun t5 wr => t5 = .int .i64 1 ∧ Aside0 (Below w.heap.size w wr) ∧ wr.cell? ⟨w.heap.size + 1, 1, none⟩ = some (.slice (some ⟨g, 0, none⟩) 1 c)) (fun _ _ => 0)
    case atStart => exact ⟨rfl, HBz, q3z⟩
    case round =>
      obtain ⟨rfl, HB, f⟩ := hrel
      go_wp2
      go_ret
      exact ⟨rfl, HB.out⟩
/-- Contract of isPointWithin at such a polygon. -/
theorem pw_ok (s : Int) (p0 p1 : Nat) (v : Value) (x : Int × Int) (l : List (Nat × Nat)) (L : List (Int × Int)) (w : World) (h : Ask w v p0 p1 x l L) :
    Calls Tryz.prog 29 #[tp s p0 p1, .iface 58 (.agg #[.int .u32 0, v])] w fun e w' => e = .returned (.bool (!bndL x l L && crL x l L)) ∧ Below w.heap.size w w' := by
  obtain ⟨g, c, rfl⟩ := h.form
  have h1 := two_made w (tb s p0 p1) (.cells #[.int .u32 0, .slice (some ⟨g, 0, none⟩) 1 c] 58)
  have hB := below_alloc (below_alloc (Below.refl w.heap.size w) (tb s p0 p1)) (.cells #[.int .u32 0, .slice (some ⟨g, 0, none⟩) 1 c] 58)
  have H1 := Aside0.mk (bound_ok s p0 p1 _ x l L _ (h.keep hB))
  have H2 := Aside0.mk (fun W (hb : Below w.heap.size w W) => inner_ok s p0 p1 _ x l L W (h.keep hb))
  have F := Aside0.mk (And.intro h1 hB)
  generalize bndL x l L = r1 at *
  generalize crL x l L = r2 at *
  clear h h1 hB
  go_enter Tryz.func29, Tryz.ntmps29
  go_wp2_with fail
  refine (H1.out).mono ?_
  rintro e w2 ⟨rfl, hb⟩
  have f1 := (hb.block _ (blk_lt F.out.1.1)).trans F.out.1.1
  have f2 := (hb.block _ (blk_lt F.out.1.2)).trans F.out.1.2
  obtain ⟨q0, q1, q2⟩ := tpc f1
  have q3 : w2.cell? ⟨w.heap.size + 1, 0, none⟩ = some (.int .u32 0) := by rw [Lib.cell_of_heap f2]; rfl
  have q4 : w2.cell? ⟨w.heap.size + 1, 1, none⟩ = some (.slice (some ⟨g, 0, none⟩) 1 c) := by rw [Lib.cell_of_heap f2]; rfl
  have HB2 := Aside0.mk (below_step F.out.2 hb)
  have H3 := Aside0.mk (H2.out _ HB2.out)
  clear f1 f2 hb H1 H2 F
  cases r1
  · go_wp2_with fail
    refine (H3.out).mono ?_
    rintro e w3 ⟨rfl, hb⟩
    have HB3 := Aside0.mk (below_step HB2.out hb)
    clear hb
    go_wp2_with fail
    go_ret
    exact ⟨rfl, HB3.out⟩
  · go_wp2_with fail
    go_ret
    exact ⟨rfl, HB2.out⟩
/-- Contract of isPointIntersects at such a polygon. -/
theorem pi_ok (s : Int) (p0 p1 : Nat) (v : Value) (x : Int × Int) (l : List (Nat × Nat)) (L : List (Int × Int)) (w : World) (h : Ask w v p0 p1 x l L) :
    Calls Tryz.prog 34 #[tp s p0 p1, .iface 58 (.agg #[.int .u32 0, v])] w fun e w' => e = .returned (.bool (bndL x l L || crL x l L)) ∧ Below w.heap.size w w' := by
  obtain ⟨g, c, rfl⟩ := h.form
  have h1 := two_made w (tb s p0 p1) (.cells #[.int .u32 0, .slice (some ⟨g, 0, none⟩) 1 c] 58)
  have hB := below_alloc (below_alloc (Below.refl w.heap.size w) (tb s p0 p1)) (.cells #[.int .u32 0, .slice (some ⟨g, 0, none⟩) 1 c] 58)
  have H1 := Aside0.mk (bound_ok s p0 p1 _ x l L _ (h.keep hB))
  have H2 := Aside0.mk (fun W (hb : Below w.heap.size w W) => inner_ok s p0 p1 _ x l L W (h.keep hb))
  have F := Aside0.mk (And.intro h1 hB)
  generalize bndL x l L = r1 at *
  generalize crL x l L = r2 at *
  clear h h1 hB
  go_enter Tryz.func34, Tryz.ntmps34
  go_wp2_with fail
  refine (H1.out).mono ?_
  rintro e w2 ⟨rfl, hb⟩
  have f1 := (hb.block _ (blk_lt F.out.1.1)).trans F.out.1.1
  have f2 := (hb.block _ (blk_lt F.out.1.2)).trans F.out.1.2
  obtain ⟨q0, q1, q2⟩ := tpc f1
  have q3 : w2.cell? ⟨w.heap.size + 1, 0, none⟩ = some (.int .u32 0) := by rw [Lib.cell_of_heap f2]; rfl
  have q4 : w2.cell? ⟨w.heap.size + 1, 1, none⟩ = some (.slice (some ⟨g, 0, none⟩) 1 c) := by rw [Lib.cell_of_heap f2]; rfl
  have HB2 := Aside0.mk (below_step F.out.2 hb)
  have H3 := Aside0.mk (H2.out _ HB2.out)
  clear f1 f2 hb H1 H2 F
  cases r1
  · go_wp2_with fail
    refine (H3.out).mono ?_
    rintro e w3 ⟨rfl, hb⟩
    have HB3 := Aside0.mk (below_step HB2.out hb)
    clear hb
    go_wp2_with fail
    go_ret
    exact ⟨rfl, HB3.out⟩
  · go_wp2_with fail
    go_ret
    exact ⟨rfl, HB2.out⟩
/-- Contract of isPolyIntersects at a point. -/
theorem ri_ok (s : Int) (p0 p1 : Nat) (v : Value) (x : Int × Int) (l : List (Nat × Nat)) (L : List (Int × Int)) (w : World) (h : Ask w v p0 p1 x l L) :
    Calls Tryz.prog 36 #[.agg #[.int .u32 0, v], .iface 50 (tp s p0 p1)] w fun e w' => e = .returned (.bool (bndL x l L || crL x l L)) ∧ Below w.heap.size w w' := by
  obtain ⟨g, c, rfl⟩ := h.form
  have hB := below_alloc (below_alloc (Below.refl w.heap.size w) (.cells #[.int .u32 0, .slice (some ⟨g, 0, none⟩) 1 c] 58)) (tb s p0 p1)
  have H1 := Aside0.mk (pi_ok s p0 p1 _ x l L _ (h.keep hB))
  have F := Aside0.mk hB
  generalize (bndL x l L || crL x l L) = r at *
  clear h hB
  go_enter Tryz.func36, Tryz.ntmps36
  go_wp2_with fail
  refine (H1.out).mono ?_
  rintro e w2 ⟨rfl, hb⟩
  have HB2 := Aside0.mk (below_step F.out hb)
  clear hb
  go_wp2_with fail
  go_ret
  exact ⟨rfl, HB2.out⟩
/-- Contract of isWithin, a point within such a polygon. -/
theorem isW_ok (s : Int) (p0 p1 : Nat) (v : Value) (x : Int × Int) (l : List (Nat × Nat)) (L : List (Int × Int)) (w : World) (h : Ask w v p0 p1 x l L) :
    Calls Tryz.prog 21 #[.iface 50 (tp s p0 p1), .iface 58 (.agg #[.int .u32 0, v])] w fun e w' => e = .returned (.bool (!bndL x l L && crL x l L)) ∧ Below w.heap.size w w' := by
  have hB := below_alloc (Below.refl w.heap.size w) (tb s p0 p1)
  have H1 := Aside0.mk (pw_ok s p0 p1 _ x l L _ (h.keep hB))
  obtain ⟨g, c, rfl⟩ := h.form
  have F := Aside0.mk hB
  generalize (!bndL x l L && crL x l L) = r at *
  clear h hB
  go_enter Tryz.func21, Tryz.ntmps21
  go_wp2_with fail
  refine (H1.out).mono ?_
  rintro e w2 ⟨rfl, hb⟩
  have HB2 := Aside0.mk (below_step F.out hb)
  clear hb
  go_wp2_with fail
  go_ret
  exact ⟨rfl, HB2.out⟩
/-- Contracts of isIntersects, of a point and such a polygon. -/
theorem isI_ok (s : Int) (p0 p1 : Nat) (v : Value) (x : Int × Int) (l : List (Nat × Nat)) (L : List (Int × Int)) (w : World) (h : Ask w v p0 p1 x l L) :
    Calls Tryz.prog 27 #[.iface 50 (tp s p0 p1), .iface 58 (.agg #[.int .u32 0, v])] w fun e w' => e = .returned (.bool (bndL x l L || crL x l L)) ∧ Below w.heap.size w w' := by
  have hB := below_alloc (Below.refl w.heap.size w) (tb s p0 p1)
  have H1 := Aside0.mk (pi_ok s p0 p1 _ x l L _ (h.keep hB))
  obtain ⟨g, c, rfl⟩ := h.form
  have F := Aside0.mk hB
  generalize (bndL x l L || crL x l L) = r at *
  clear h hB
  go_enter Tryz.func27, Tryz.ntmps27
  go_wp2_with fail
  refine (H1.out).mono ?_
  rintro e w2 ⟨rfl, hb⟩
  have HB2 := Aside0.mk (below_step F.out hb)
  clear hb
  go_wp2_with fail
  go_ret
  exact ⟨rfl, HB2.out⟩
theorem isJ_ok (s : Int) (p0 p1 : Nat) (v : Value) (x : Int × Int) (l : List (Nat × Nat)) (L : List (Int × Int)) (w : World) (h : Ask w v p0 p1 x l L) :
    Calls Tryz.prog 27 #[.iface 58 (.agg #[.int .u32 0, v]), .iface 50 (tp s p0 p1)] w fun e w' => e = .returned (.bool (bndL x l L || crL x l L)) ∧ Below w.heap.size w w' := by
  obtain ⟨g, c, rfl⟩ := h.form
  have hB := below_alloc (Below.refl w.heap.size w) (.cells #[.int .u32 0, .slice (some ⟨g, 0, none⟩) 1 c] 58)
  have H1 := Aside0.mk (ri_ok s p0 p1 _ x l L _ (h.keep hB))
  have F := Aside0.mk hB
  generalize (bndL x l L || crL x l L) = r at *
  clear h hB
  go_enter Tryz.func27, Tryz.ntmps27
  go_wp2_with fail
  refine (H1.out).mono ?_
  rintro e w2 ⟨rfl, hb⟩
  have HB2 := Aside0.mk (below_step F.out hb)
  clear hb
  go_wp2_with fail
  go_ret
  exact ⟨rfl, HB2.out⟩
end Go.Proofs.YtjhgmpeoagndjaaGreat.GE
