/-
  Contracts of isPointIntersectLine. Condition: small whole numbers.
-/
import Derived.Test.YtjhgmpeoagndjaaGreatGWv
namespace Go.Proofs.YtjhgmpeoagndjaaGreat.GE
open Go.RowKit Go.Proofs.YtjhgmpeoagndjaaGreatW.PrintWords Go.Proofs.YtjhgmpeoagndjaaGreatW.PrintLast Go.Proofs.YtjhgmpeoagndjaaGreatW.PrintMore
open Go.Proofs.YtjhgmpeoagndjaaGreat.Flo
set_option linter.unusedVariables false
set_option linter.unusedSimpArgs false
set_option maxRecDepth 100000
set_option maxHeartbeats 4000000

/-- The whole numbers of points. -/
def Is (l : List (Nat × Nat)) (L : List (Int × Int)) : Prop := l.length = L.length ∧ ∀ (i : Nat) (a : Nat × Nat) (x : Int × Int), l[i]? = some a → L[i]? = some x → Sw a.1 x.1 ∧ Sw a.2 x.2
def side3 (a b p : Int × Int) : Int := side a.1 a.2 b.1 b.2 p.1 p.2
def onB (p : Int × Int) (L : List (Int × Int)) (j : Nat) : Bool :=
  inB (L.getD j (0, 0)).1 (L.getD j (0, 0)).2 (L.getD (j + 1) (0, 0)).1 (L.getD (j + 1) (0, 0)).2 p.1 p.2 && decide (side3 (L.getD j (0, 0)) (L.getD (j + 1) (0, 0)) p = 0)
theorem two_made (w : World) (o1 o2 : Obj) : ((w.alloc o1).alloc o2).drew.heap[w.heap.size]? = some o1 ∧ ((w.alloc o1).alloc o2).drew.heap[w.heap.size + 1]? = some o2 := by
  have h1 := heap_alloc_new w o1
  have h2 := heap_alloc_new (w.alloc o1) o2
  have hb := below_alloc (Below.refl (w.alloc o1).heap.size (w.alloc o1)) o2
  have hs : (w.alloc o1).heap.size = w.heap.size + 1 := by simp
  rw [hs] at h2 hb
  exact ⟨(hb.block _ (by omega)).trans h1, h2⟩
theorem onB_eq (x : Int × Int) (L : List (Int × Int)) (j : Nat) : onB x L j = (inB (L.getD j (0, 0)).1 (L.getD j (0, 0)).2 (L.getD (j + 1) (0, 0)).1 (L.getD (j + 1) (0, 0)).2 x.1 x.2 && decide (ori (side (L.getD j (0, 0)).1 (L.getD j (0, 0)).2 (L.getD (j + 1) (0, 0)).1 (L.getD (j + 1) (0, 0)).2 x.1 x.2) = 0)) := by
  unfold onB side3 ori
  generalize side _ _ _ _ _ _ = S
  congr 1
  rw [decide_eq_decide]
  split
  · simp_all
  · split <;> simp_all
theorem on_next {x : Int × Int} {L : List (Int × Int)} {k : Nat} (h : ∀ j < k, onB x L j = false) (h1 : onB x L k = false) : ∀ j < k + 1, onB x L j = false := by
  intro j hj
  rcases Nat.lt_or_eq_of_le (Nat.le_of_lt_succ hj) with h2 | rfl
  · exact h j h2
  · exact h1
theorem on_yes {x : Int × Int} {l : List (Nat × Nat)} {L : List (Int × Int)} {k : Nat} (hk : k + 1 < l.length) (h : onB x L k = true) : (List.range (l.length - 1)).any (onB x L) = true := by
  rw [List.any_eq_true]
  exact ⟨k, List.mem_range.2 (by omega), h⟩
theorem on_no {x : Int × Int} {l : List (Nat × Nat)} {L : List (Int × Int)} {k : Nat} (hk : l.length ≤ k + 1) (h : ∀ j < k, onB x L j = false) : (List.range (l.length - 1)).any (onB x L) = false := by
  rw [List.any_eq_false]
  intro j hj
  rw [h j (by have := List.mem_range.1 hj; omega)]
  simp
theorem Is.at {l : List (Nat × Nat)} {L : List (Int × Int)} (h : Is l L) {i : Nat} {a : Nat × Nat} (ha : l[i]? = some a) : Sw a.1 (L.getD i (0, 0)).1 ∧ Sw a.2 (L.getD i (0, 0)).2 := by
  have hi : i < L.length := by rw [← h.1]; exact (List.getElem?_eq_some_iff.1 ha).1
  have hx := List.getElem?_eq_getElem hi
  rw [List.getD_eq_getElem?_getD, hx]
  exact h.2 i a _ ha hx
theorem Pts.keep' {W W' : World} {g : Nat} {l : List (Nat × Nat)} (h : Pts W g l) (hb : Below W.heap.size W W') : kP.C W' (some ⟨g, 0, none⟩) l.length (l.map (fun p => ((0 : Int), p))) := Kd.C_below h hb
theorem line_ok (s : Int) (p0 p1 gp c : Nat) (x : Int × Int) (l : List (Nat × Nat)) (L : List (Int × Int)) (hI : Is l L) (hp : Sw p0 x.1 ∧ Sw p1 x.2) (hl : l.length ≤ 1000) (w : World) (hP : Pts w gp l) :
    Calls Tryz.prog 39 #[tp s p0 p1, .agg #[.int .u32 0, .slice (some ⟨gp, 0, none⟩) l.length c]] w fun e w' => e = .returned (.bool ((List.range (l.length - 1)).any (onB x L))) ∧ Below w.heap.size w w' := by
  have HP := Aside0.mk hP
  have HI := Aside0.mk hI
  have Hp := Aside0.mk hp
  clear hP hI hp
  go_enter Tryz.func39, Tryz.ntmps39
  go_wp2
  go_loopw [5] (fun t5 wr => ∃ k : Nat, t5 = .int .i64 ((k : Int) + 1) ∧ k ≤ l.length ∧ Aside0 (∀ j < k, onB x L j = false) ∧ Aside0 (Below w.heap.size w wr) ∧ wr.heap[w.heap.size]? = some (.cells #[.int .u32 s, .float .f64 p0, .float .f64 p1] 50 (0, 0)) ∧ wr.heap[w.heap.size + 1]? = some (.cells #[.int .u32 0, .slice (some ⟨gp, 0, none⟩) l.length c] 54 (0, 0))) (fun t5 _ => l.length + 1 - (intOf t5).toNat)
  case atStart =>
    obtain ⟨h1, h2⟩ := two_made w (tb s p0 p1) (.cells #[.int .u32 0, .slice (some ⟨gp, 0, none⟩) l.length c] 54)
    exact ⟨0, rfl, Nat.zero_le _, ⟨fun j hj => absurd hj (by omega)⟩, ⟨by repeat (first | (with_reducible exact Below.refl _ _) | (with_reducible apply below_alloc))⟩, h1, h2⟩
  case round =>
    obtain ⟨k, rfl, hk, HK, HB, f1, f2⟩ := hrel
    have g1 : wr.cell? ⟨w.heap.size + 1, 1, none⟩ = some (.slice (some ⟨gp, 0, none⟩) l.length c) := by rw [Lib.cell_of_heap f2]; rfl
    have g0 : wr.cell? ⟨w.heap.size + 1, 0, none⟩ = some (.int .u32 0) := by rw [Lib.cell_of_heap f2]; rfl
    rcases Nat.lt_or_ge (k + 1) l.length with hlt | hge
    · obtain ⟨a, ha⟩ : ∃ a, l[k]? = some a := ⟨_, List.getElem?_eq_getElem (by omega)⟩
      obtain ⟨b, hb⟩ : ∃ b, l[k + 1]? = some b := ⟨_, List.getElem?_eq_getElem hlt⟩
      obtain ⟨ad, he, x0, x1, x2⟩ := at_P (HP.out.keep' HB.out) k (0, a) (by rw [List.getElem?_map, ha]; rfl)
      cases he
      obtain ⟨ad, he, y0, y1, y2⟩ := at_P (HP.out.keep' HB.out) (k + 1) (0, b) (by rw [List.getElem?_map, hb]; rfl)
      cases he
      rw [add_plain] at x0 x1 x2 y0 y1 y2
      simp only at x0 x1 x2 y0 y1 y2
      go_wp2
      have w1 : IntKind.i64.wrap (k : Int) = (k : Int) := IntWalk.i64_in _ (by omega)
      have w2 : (0 : Int) ≤ (k : Int) ∧ (k : Int) < (l.length : Int) := by omega
      have w3 : (0 : Int) ≤ (k : Int) + 1 ∧ (k : Int) + 1 < (l.length : Int) := by omega
      have w4 : ((k : Int) + 1).toNat = k + 1 := by omega
      obtain ⟨i1, i2⟩ := HI.out.at ha
      obtain ⟨i3, i4⟩ := HI.out.at hb
      have HC1 := Aside0.mk (fun W => inBBox_ok 0 0 s a.1 a.2 b.1 b.2 p0 p1 _ _ _ _ _ _ i1 i2 i3 i4 Hp.out.1 Hp.out.2 W)
      have HC2 := Aside0.mk (fun W => orient_ok 0 0 s a.1 a.2 b.1 b.2 p0 p1 _ _ _ _ _ _ i1 i2 i3 i4 Hp.out.1 Hp.out.2 W)
      obtain ⟨r1, e1⟩ : ∃ r, inB (L.getD k (0, 0)).1 (L.getD k (0, 0)).2 (L.getD (k + 1) (0, 0)).1 (L.getD (k + 1) (0, 0)).2 x.1 x.2 = r := ⟨_, rfl⟩
      obtain ⟨o, e2⟩ : ∃ o, ori (side (L.getD k (0, 0)).1 (L.getD k (0, 0)).2 (L.getD (k + 1) (0, 0)).1 (L.getD (k + 1) (0, 0)).2 x.1 x.2) = o := ⟨_, rfl⟩
      rw [e1] at HC1
      rw [e2] at HC2
      clear i1 i2 i3 i4 ha hb
      refine wp_region_noPanic ?_
      refine wp_region_held_drew (S := fun W => Below wr.heap.size wr W) (by kernel_rfl) ?_ (fun hHeld => ?_)
      · exact below_drew (Below.refl _ _)
      refine take_ (oi := ?oi1) (i := 0) (N := some 15) (v := ?v1) ?hi1 (by kernel_rfl) (by kernel_rfl) (by kernel_rfl) ?hQ1 ?hN1 (Or.inl ⟨?hw1, ?hy1⟩) hHeld ?rest1
      case hi1 => simp only [List.getElem?_toArray, List.getElem?_cons_zero, List.getElem?_cons_succ]; rfl
      case hQ1 => exact fun _ _ _ h => h
      case hN1 => rfl
      case hw1 => rfl
      case hy1 => intro W hSw; have z0 := pw_cell_below (show Below _ _ W from hSw) g1; have z1 := pw_cell_below (show Below _ _ W from hSw) x0; have z2 := pw_cell_below (show Below _ _ W from hSw) x1; have z3 := pw_cell_below (show Below _ _ W from hSw) x2; have z4 := pw_cell_below (show Below _ _ W from hSw) y0; have z5 := pw_cell_below (show Below _ _ W from hSw) y1; have z6 := pw_cell_below (show Below _ _ W from hSw) y2; go_simp; (try with_reducible rfl)
      simp only [Act.put, List.setIfInBounds_toArray, List.set_cons_zero, List.set_cons_succ]
      refine take_ (oi := ?oi2) (i := 1) (N := some 16) (v := ?v2) ?hi2 (by kernel_rfl) (by kernel_rfl) (by kernel_rfl) ?hQ2 ?hN2 (Or.inl ⟨?hw2, ?hy2⟩) hHeld ?rest2
      case hi2 => simp only [List.getElem?_toArray, List.getElem?_cons_zero, List.getElem?_cons_succ]; rfl
      case hQ2 => exact fun _ _ _ h => h
      case hN2 => rfl
      case hw2 => rfl
      case hy2 => intro W hSw; have z0 := pw_cell_below (show Below _ _ W from hSw) g1; have z1 := pw_cell_below (show Below _ _ W from hSw) x0; have z2 := pw_cell_below (show Below _ _ W from hSw) x1; have z3 := pw_cell_below (show Below _ _ W from hSw) x2; have z4 := pw_cell_below (show Below _ _ W from hSw) y0; have z5 := pw_cell_below (show Below _ _ W from hSw) y1; have z6 := pw_cell_below (show Below _ _ W from hSw) y2; go_simp; (try with_reducible rfl)
      simp only [Act.put, List.setIfInBounds_toArray, List.set_cons_zero, List.set_cons_succ]
      refine take_ (oi := ?oi3) (i := 2) (N := some 17) (v := ?v3) ?hi3 (by kernel_rfl) (by kernel_rfl) (by kernel_rfl) ?hQ3 ?hN3 (Or.inl ⟨?hw3, ?hy3⟩) hHeld ?rest3
      case hi3 => simp only [List.getElem?_toArray, List.getElem?_cons_zero, List.getElem?_cons_succ]; rfl
      case hQ3 => exact fun _ _ _ h => h
      case hN3 => rfl
      case hw3 => rfl
      case hy3 => intro W hSw; have z0 := pw_cell_below (show Below _ _ W from hSw) g1; have z1 := pw_cell_below (show Below _ _ W from hSw) x0; have z2 := pw_cell_below (show Below _ _ W from hSw) x1; have z3 := pw_cell_below (show Below _ _ W from hSw) x2; have z4 := pw_cell_below (show Below _ _ W from hSw) y0; have z5 := pw_cell_below (show Below _ _ W from hSw) y1; have z6 := pw_cell_below (show Below _ _ W from hSw) y2; go_simp; (try with_reducible rfl)
      simp only [Act.put, List.setIfInBounds_toArray, List.set_cons_zero, List.set_cons_succ]
      refine take_ (oi := ?oi4) (i := 3) (N := some 18) (v := ?v4) ?hi4 (by kernel_rfl) (by kernel_rfl) (by kernel_rfl) ?hQ4 ?hN4 (Or.inl ⟨?hw4, ?hy4⟩) hHeld ?rest4
      case hi4 => simp only [List.getElem?_toArray, List.getElem?_cons_zero, List.getElem?_cons_succ]; rfl
      case hQ4 => exact fun _ _ _ h => h
      case hN4 => rfl
      case hw4 => rfl
      case hy4 => intro W hSw; have z0 := pw_cell_below (show Below _ _ W from hSw) g1; have z1 := pw_cell_below (show Below _ _ W from hSw) x0; have z2 := pw_cell_below (show Below _ _ W from hSw) x1; have z3 := pw_cell_below (show Below _ _ W from hSw) x2; have z4 := pw_cell_below (show Below _ _ W from hSw) y0; have z5 := pw_cell_below (show Below _ _ W from hSw) y1; have z6 := pw_cell_below (show Below _ _ W from hSw) y2; go_simp; (try with_reducible rfl)
      simp only [Act.put, List.setIfInBounds_toArray, List.set_cons_zero, List.set_cons_succ]
      refine take_ (oi := ?oi5) (i := 4) (N := some 19) (v := ?v5) ?hi5 (by kernel_rfl) (by kernel_rfl) (by kernel_rfl) ?hQ5 ?hN5 (Or.inl ⟨?hw5, ?hy5⟩) hHeld ?rest5
      case hi5 => simp only [List.getElem?_toArray, List.getElem?_cons_zero, List.getElem?_cons_succ]; rfl
      case hQ5 => exact fun _ _ _ h => h
      case hN5 => rfl
      case hw5 => rfl
      case hy5 => intro W hSw; have z0 := pw_cell_below (show Below _ _ W from hSw) g1; have z1 := pw_cell_below (show Below _ _ W from hSw) x0; have z2 := pw_cell_below (show Below _ _ W from hSw) x1; have z3 := pw_cell_below (show Below _ _ W from hSw) x2; have z4 := pw_cell_below (show Below _ _ W from hSw) y0; have z5 := pw_cell_below (show Below _ _ W from hSw) y1; have z6 := pw_cell_below (show Below _ _ W from hSw) y2; go_simp; (try with_reducible rfl)
      simp only [Act.put, List.setIfInBounds_toArray, List.set_cons_zero, List.set_cons_succ]
      refine take_ (oi := ?oi6) (i := 5) (N := some 20) (v := ?v6) ?hi6 (by kernel_rfl) (by kernel_rfl) (by kernel_rfl) ?hQ6 ?hN6 (Or.inl ⟨?hw6, ?hy6⟩) hHeld ?rest6
      case hi6 => simp only [List.getElem?_toArray, List.getElem?_cons_zero, List.getElem?_cons_succ]; rfl
      case hQ6 => exact fun _ _ _ h => h
      case hN6 => rfl
      case hw6 => rfl
      case hy6 => intro W hSw; have z0 := pw_cell_below (show Below _ _ W from hSw) g1; have z1 := pw_cell_below (show Below _ _ W from hSw) x0; have z2 := pw_cell_below (show Below _ _ W from hSw) x1; have z3 := pw_cell_below (show Below _ _ W from hSw) x2; have z4 := pw_cell_below (show Below _ _ W from hSw) y0; have z5 := pw_cell_below (show Below _ _ W from hSw) y1; have z6 := pw_cell_below (show Below _ _ W from hSw) y2; go_simp; (try with_reducible rfl)
      simp only [Act.put, List.setIfInBounds_toArray, List.set_cons_zero, List.set_cons_succ]
      refine take_ (oi := ?oi7) (i := 6) (N := some 21) (v := ?v7) ?hi7 (by kernel_rfl) (by kernel_rfl) (by kernel_rfl) ?hQ7 ?hN7 (Or.inl ⟨?hw7, ?hy7⟩) hHeld ?rest7
      case hi7 => simp only [List.getElem?_toArray, List.getElem?_cons_zero, List.getElem?_cons_succ]; rfl
      case hQ7 => exact fun _ _ _ h => h
      case hN7 => rfl
      case hw7 => rfl
      case hy7 => intro W hSw; have z0 := pw_cell_below (show Below _ _ W from hSw) g1; have z1 := pw_cell_below (show Below _ _ W from hSw) x0; have z2 := pw_cell_below (show Below _ _ W from hSw) x1; have z3 := pw_cell_below (show Below _ _ W from hSw) x2; have z4 := pw_cell_below (show Below _ _ W from hSw) y0; have z5 := pw_cell_below (show Below _ _ W from hSw) y1; have z6 := pw_cell_below (show Below _ _ W from hSw) y2; go_simp; (try with_reducible rfl)
      simp only [Act.put, List.setIfInBounds_toArray, List.set_cons_zero, List.set_cons_succ]
      refine take_ (oi := ?oi8) (i := 7) (N := some 22) (v := ?v8) ?hi8 (by kernel_rfl) (by kernel_rfl) (by kernel_rfl) ?hQ8 ?hN8 (Or.inl ⟨?hw8, ?hy8⟩) hHeld ?rest8
      case hi8 => simp only [List.getElem?_toArray, List.getElem?_cons_zero, List.getElem?_cons_succ]; rfl
      case hQ8 => exact fun _ _ _ h => h
      case hN8 => rfl
      case hw8 => rfl
      case hy8 => intro W hSw; have z0 := pw_cell_below (show Below _ _ W from hSw) g1; have z1 := pw_cell_below (show Below _ _ W from hSw) x0; have z2 := pw_cell_below (show Below _ _ W from hSw) x1; have z3 := pw_cell_below (show Below _ _ W from hSw) x2; have z4 := pw_cell_below (show Below _ _ W from hSw) y0; have z5 := pw_cell_below (show Below _ _ W from hSw) y1; have z6 := pw_cell_below (show Below _ _ W from hSw) y2; go_simp; (try with_reducible rfl)
      simp only [Act.put, List.setIfInBounds_toArray, List.set_cons_zero, List.set_cons_succ]
      refine take_ (oi := ?oi9) (i := 8) (N := some 23) (v := ?v9) ?hi9 (by kernel_rfl) (by kernel_rfl) (by kernel_rfl) ?hQ9 ?hN9 (Or.inl ⟨?hw9, ?hy9⟩) hHeld ?rest9
      case hi9 => simp only [List.getElem?_toArray, List.getElem?_cons_zero, List.getElem?_cons_succ]; rfl
      case hQ9 => exact fun _ _ _ h => h
      case hN9 => rfl
      case hw9 => rfl
      case hy9 => intro W hSw; have z0 := pw_cell_below (show Below _ _ W from hSw) g1; have z1 := pw_cell_below (show Below _ _ W from hSw) x0; have z2 := pw_cell_below (show Below _ _ W from hSw) x1; have z3 := pw_cell_below (show Below _ _ W from hSw) x2; have z4 := pw_cell_below (show Below _ _ W from hSw) y0; have z5 := pw_cell_below (show Below _ _ W from hSw) y1; have z6 := pw_cell_below (show Below _ _ W from hSw) y2; go_simp; (try with_reducible rfl)
      simp only [Act.put, List.setIfInBounds_toArray, List.set_cons_zero, List.set_cons_succ]
      refine take_ (oi := ?oi10) (i := 9) (N := some 24) (v := ?v10) ?hi10 (by kernel_rfl) (by kernel_rfl) (by kernel_rfl) ?hQ10 ?hN10 (Or.inl ⟨?hw10, ?hy10⟩) hHeld ?rest10
      case hi10 => simp only [List.getElem?_toArray, List.getElem?_cons_zero, List.getElem?_cons_succ]; rfl
      case hQ10 => exact fun _ _ _ h => h
      case hN10 => rfl
      case hw10 => rfl
      case hy10 => intro W hSw; have z0 := pw_cell_below (show Below _ _ W from hSw) g1; have z1 := pw_cell_below (show Below _ _ W from hSw) x0; have z2 := pw_cell_below (show Below _ _ W from hSw) x1; have z3 := pw_cell_below (show Below _ _ W from hSw) x2; have z4 := pw_cell_below (show Below _ _ W from hSw) y0; have z5 := pw_cell_below (show Below _ _ W from hSw) y1; have z6 := pw_cell_below (show Below _ _ W from hSw) y2; go_simp; (try with_reducible rfl)
      simp only [Act.put, List.setIfInBounds_toArray, List.set_cons_zero, List.set_cons_succ]
      refine take_ (oi := ?oi11) (i := 10) (N := some 25) (v := ?v11) ?hi11 (by kernel_rfl) (by kernel_rfl) (by kernel_rfl) ?hQ11 ?hN11 (Or.inl ⟨?hw11, ?hy11⟩) hHeld ?rest11
      case hi11 => simp only [List.getElem?_toArray, List.getElem?_cons_zero, List.getElem?_cons_succ]; rfl
      case hQ11 => exact fun _ _ _ h => h
      case hN11 => rfl
      case hw11 => rfl
      case hy11 => intro W hSw; have z0 := pw_cell_below (show Below _ _ W from hSw) g1; have z1 := pw_cell_below (show Below _ _ W from hSw) x0; have z2 := pw_cell_below (show Below _ _ W from hSw) x1; have z3 := pw_cell_below (show Below _ _ W from hSw) x2; have z4 := pw_cell_below (show Below _ _ W from hSw) y0; have z5 := pw_cell_below (show Below _ _ W from hSw) y1; have z6 := pw_cell_below (show Below _ _ W from hSw) y2; go_simp; (try with_reducible rfl)
      simp only [Act.put, List.setIfInBounds_toArray, List.set_cons_zero, List.set_cons_succ]
      refine wpAnyH_ready (rs := [11, 12]) (by kernel_rfl) (by simp) ?_
      refine AllReadyH.cons (o := ?oi12) ?hi12 (fun K hK => ?step12) ?more12
      case hi12 => simp only [List.getElem?_toArray, List.getElem?_cons_zero, List.getElem?_cons_succ]; rfl
      case step12 =>
        go_simp
        refine hK.out _ _ (by repeat (first | (with_reducible exact hHeld) | (with_reducible exact Below.refl _ _) | (with_reducible apply below_alloc) | (with_reducible apply below_drew) | (with_reducible refine below_set ?_ (by first | exact Nat.le_refl _ | simp)))) (fun hHeld => ?_)
        clear hK K
        (try simp only [Act.put, List.setIfInBounds_toArray, List.set_cons_zero, List.set_cons_succ])
        refine wpAnyH_ready (rs := [12]) (by kernel_rfl) (by simp) ?_
        refine AllReadyH.cons (o := ?oi13) ?hi13 (fun K hK => ?step13) AllReadyH.nil
        case hi13 => simp only [List.getElem?_toArray, List.getElem?_cons_zero, List.getElem?_cons_succ]; rfl
        go_simp
        refine hK.out _ _ (by repeat (first | (with_reducible exact hHeld) | (with_reducible exact Below.refl _ _) | (with_reducible apply below_alloc) | (with_reducible apply below_drew) | (with_reducible refine below_set ?_ (by first | exact Nat.le_refl _ | simp)))) (fun hHeld => ?_)
        clear hK K
        (try simp only [Act.put, List.setIfInBounds_toArray, List.set_cons_zero, List.set_cons_succ])
        refine wpAnyH_ready (rs := [13]) (by kernel_rfl) (by simp) ?_
        refine AllReadyH.cons (o := ?oi14) ?hi14 (fun K hK => ?step14) AllReadyH.nil
        case hi14 => simp only [List.getElem?_toArray, List.getElem?_cons_zero, List.getElem?_cons_succ]; rfl
        go_simp
        refine hK.out _ _ (by repeat (first | (with_reducible exact hHeld) | (with_reducible exact Below.refl _ _) | (with_reducible apply below_alloc) | (with_reducible apply below_drew) | (with_reducible refine below_set ?_ (by first | exact Nat.le_refl _ | simp)))) (fun hHeld => ?_)
        clear hK K
        refine wpAnyH_ready (rs := [14]) (by kernel_rfl) (by simp) ?_
        refine AllReadyH.cons (o := ?oi15) ?hi15 (fun K hK => ?step15) AllReadyH.nil
        case hi15 => simp only [List.getElem?_toArray, List.getElem?_cons_zero, List.getElem?_cons_succ]; rfl
        go_simp
        refine hK.out _ _ (by repeat (first | (with_reducible exact hHeld) | (with_reducible exact Below.refl _ _) | (with_reducible apply below_alloc) | (with_reducible apply below_drew) | (with_reducible refine below_set ?_ (by first | exact Nat.le_refl _ | simp)))) (fun hHeld => ?_)
        clear hK K
        refine wpAnyH_done (by kernel_rfl) ?_ _
        refine NoPanic.normal ?_
        have hV := two_made wr (tb 0 a.1 a.2) (tb 0 b.1 b.2)
        generalize ((wr.alloc (tb 0 a.1 a.2)).alloc (tb 0 b.1 b.2)).drew = V at *
        obtain ⟨hA, hB⟩ := hV
        obtain ⟨q0, q1, q2⟩ := tpc hA
        obtain ⟨q3, q4, q5⟩ := tpc hB
        have f1V := (hHeld.block _ (blk_lt f1)).trans f1
        have f2V := (hHeld.block _ (blk_lt f2)).trans f2
        obtain ⟨q6, q7, q8⟩ := tpc f1V
        have HBV := Aside0.mk (below_step HB.out hHeld)
        clear f1 f2 HB g1 g0 x0 x1 x2 y0 y1 y2 hHeld
        clear hHeld
        go_wp2_with fail
        refine (HC1.out _).mono ?_
        rintro e v2 ⟨rfl, hb2⟩
        have hA2 := (hb2.block _ (blk_lt hA)).trans hA
        have hB2 := (hb2.block _ (blk_lt hB)).trans hB
        have f1V2 := (hb2.block _ (blk_lt f1V)).trans f1V
        have f2V2 := (hb2.block _ (blk_lt f2V)).trans f2V
        have HB2 := Aside0.mk (below_step HBV.out hb2)
        clear q0 q1 q2 q3 q4 q5 q6 q7 q8 hA hB f1V f2V HBV hb2
        cases r1
        · go_wp2_with fail
          go_roundw
          case rel => exact ⟨k + 1, by go_num, by omega, ⟨on_next HK.out (by rw [onB_eq, e1]; rfl)⟩, HB2, f1V2, f2V2⟩
          case measure => simp [intOf]; omega
        · obtain ⟨q0, q1, q2⟩ := tpc hA2
          obtain ⟨q3, q4, q5⟩ := tpc hB2
          obtain ⟨q6, q7, q8⟩ := tpc f1V2
          go_wp2_with fail
          refine (HC2.out _).mono ?_
          rintro e v3 ⟨rfl, hb3⟩
          have f1V3 := (hb3.block _ (blk_lt f1V2)).trans f1V2
          have f2V3 := (hb3.block _ (blk_lt f2V2)).trans f2V2
          have HB3 := Aside0.mk (below_step HB2.out hb3)
          clear q0 q1 q2 q3 q4 q5 q6 q7 q8 hA2 hB2 f1V2 f2V2 HB2 hb3
          by_cases ho : o = 0
          · subst ho
            go_wp2_with fail
            go_ret
            exact ⟨by rw [on_yes (l := l) (k := k) hlt (by rw [onB_eq, e1, e2]; rfl)]; rfl, HB3.out⟩
          · have ho2 : (o == 0) = false := by simpa using ho
            go_wp2_with fail
            go_roundw
            case rel => exact ⟨k + 1, by go_num, by omega, ⟨on_next HK.out (by rw [onB_eq, e1, e2]; simpa using ho)⟩, HB3, f1V3, f2V3⟩
            case measure => simp [intOf]; omega
      refine AllReadyH.cons (o := ?oi16) ?hi16 (fun K hK => ?step16) AllReadyH.nil
      case hi16 => simp only [List.getElem?_toArray, List.getElem?_cons_zero, List.getElem?_cons_succ]; rfl
      go_simp
      refine hK.out _ _ (by repeat (first | (with_reducible exact hHeld) | (with_reducible exact Below.refl _ _) | (with_reducible apply below_alloc) | (with_reducible apply below_drew) | (with_reducible refine below_set ?_ (by first | exact Nat.le_refl _ | simp)))) (fun hHeld => ?_)
      clear hK K
      (try simp only [Act.put, List.setIfInBounds_toArray, List.set_cons_zero, List.set_cons_succ])
      refine wpAnyH_ready (rs := [11]) (by kernel_rfl) (by simp) ?_
      refine AllReadyH.cons (o := ?oi17) ?hi17 (fun K hK => ?step17) AllReadyH.nil
      case hi17 => simp only [List.getElem?_toArray, List.getElem?_cons_zero, List.getElem?_cons_succ]; rfl
      go_simp
      refine hK.out _ _ (by repeat (first | (with_reducible exact hHeld) | (with_reducible exact Below.refl _ _) | (with_reducible apply below_alloc) | (with_reducible apply below_drew) | (with_reducible refine below_set ?_ (by first | exact Nat.le_refl _ | simp)))) (fun hHeld => ?_)
      clear hK K
      (try simp only [Act.put, List.setIfInBounds_toArray, List.set_cons_zero, List.set_cons_succ])
      refine wpAnyH_ready (rs := [13]) (by kernel_rfl) (by simp) ?_
      refine AllReadyH.cons (o := ?oi18) ?hi18 (fun K hK => ?step18) AllReadyH.nil
      case hi18 => simp only [List.getElem?_toArray, List.getElem?_cons_zero, List.getElem?_cons_succ]; rfl
      go_simp
      refine hK.out _ _ (by repeat (first | (with_reducible exact hHeld) | (with_reducible exact Below.refl _ _) | (with_reducible apply below_alloc) | (with_reducible apply below_drew) | (with_reducible refine below_set ?_ (by first | exact Nat.le_refl _ | simp)))) (fun hHeld => ?_)
      clear hK K
      refine wpAnyH_ready (rs := [14]) (by kernel_rfl) (by simp) ?_
      refine AllReadyH.cons (o := ?oi19) ?hi19 (fun K hK => ?step19) AllReadyH.nil
      case hi19 => simp only [List.getElem?_toArray, List.getElem?_cons_zero, List.getElem?_cons_succ]; rfl
      go_simp
      refine hK.out _ _ (by repeat (first | (with_reducible exact hHeld) | (with_reducible exact Below.refl _ _) | (with_reducible apply below_alloc) | (with_reducible apply below_drew) | (with_reducible refine below_set ?_ (by first | exact Nat.le_refl _ | simp)))) (fun hHeld => ?_)
      clear hK K
      refine wpAnyH_done (by kernel_rfl) ?_ _
      refine NoPanic.normal ?_
      have hV := two_made wr (tb 0 b.1 b.2) (tb 0 a.1 a.2)
      generalize ((wr.alloc (tb 0 b.1 b.2)).alloc (tb 0 a.1 a.2)).drew = V at *
      obtain ⟨hA, hB⟩ := hV
      obtain ⟨q0, q1, q2⟩ := tpc hA
      obtain ⟨q3, q4, q5⟩ := tpc hB
      have f1V := (hHeld.block _ (blk_lt f1)).trans f1
      have f2V := (hHeld.block _ (blk_lt f2)).trans f2
      obtain ⟨q6, q7, q8⟩ := tpc f1V
      have HBV := Aside0.mk (below_step HB.out hHeld)
      clear f1 f2 HB g1 g0 x0 x1 x2 y0 y1 y2 hHeld
      clear hHeld
      go_wp2_with fail
      refine (HC1.out _).mono ?_
      rintro e v2 ⟨rfl, hb2⟩
      have hA2 := (hb2.block _ (blk_lt hA)).trans hA
      have hB2 := (hb2.block _ (blk_lt hB)).trans hB
      have f1V2 := (hb2.block _ (blk_lt f1V)).trans f1V
      have f2V2 := (hb2.block _ (blk_lt f2V)).trans f2V
      have HB2 := Aside0.mk (below_step HBV.out hb2)
      clear q0 q1 q2 q3 q4 q5 q6 q7 q8 hA hB f1V f2V HBV hb2
      cases r1
      · go_wp2_with fail
        go_roundw
        case rel => exact ⟨k + 1, by go_num, by omega, ⟨on_next HK.out (by rw [onB_eq, e1]; rfl)⟩, HB2, f1V2, f2V2⟩
        case measure => simp [intOf]; omega
      · obtain ⟨q0, q1, q2⟩ := tpc hA2
        obtain ⟨q3, q4, q5⟩ := tpc hB2
        obtain ⟨q6, q7, q8⟩ := tpc f1V2
        go_wp2_with fail
        refine (HC2.out _).mono ?_
        rintro e v3 ⟨rfl, hb3⟩
        have f1V3 := (hb3.block _ (blk_lt f1V2)).trans f1V2
        have f2V3 := (hb3.block _ (blk_lt f2V2)).trans f2V2
        have HB3 := Aside0.mk (below_step HB2.out hb3)
        clear q0 q1 q2 q3 q4 q5 q6 q7 q8 hA2 hB2 f1V2 f2V2 HB2 hb3
        by_cases ho : o = 0
        · subst ho
          go_wp2_with fail
          go_ret
          exact ⟨by rw [on_yes (l := l) (k := k) hlt (by rw [onB_eq, e1, e2]; rfl)]; rfl, HB3.out⟩
        · have ho2 : (o == 0) = false := by simpa using ho
          go_wp2_with fail
          go_roundw
          case rel => exact ⟨k + 1, by go_num, by omega, ⟨on_next HK.out (by rw [onB_eq, e1, e2]; simpa using ho)⟩, HB3, f1V3, f2V3⟩
          case measure => simp [intOf]; omega
    · go_wp2
      go_ret
      exact ⟨by rw [on_no (l := l) (k := k) (by omega) HK.out]; rfl, HB.out⟩
end Go.Proofs.YtjhgmpeoagndjaaGreat.GE
