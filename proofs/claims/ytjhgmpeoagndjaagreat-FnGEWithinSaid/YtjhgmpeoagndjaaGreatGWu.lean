/-
  Contracts of impl.GEWithin and impl.GEIntersects at a point and a polygon of one line along the axes. Condition: small whole numbers.
-/
import Derived.Test.YtjhgmpeoagndjaaGreatGWo
namespace Go.Proofs.YtjhgmpeoagndjaaGreat.GE
open Go.RowKit Go.Proofs.YtjhgmpeoagndjaaGreatW.PrintWords Go.Proofs.YtjhgmpeoagndjaaGreatW.PrintLast Go.Proofs.YtjhgmpeoagndjaaGreatW.PrintMore
open Go.Proofs.YtjhgmpeoagndjaaGreat.Flo
set_option linter.unusedVariables false
set_option linter.unusedSimpArgs false
set_option maxRecDepth 100000
set_option maxHeartbeats 4000000

/-- Contract of the deferred call, where nothing has panicked. -/
theorem caught_idle (p : Addr) (w : World) :
    CallsD Tryz.prog 12 #[.pointer (some p)] .returning w fun e u' w' => e = .returned (.tuple #[]) ∧ u' = .returning ∧ w' = w := by
  refine callsD_of_wpS Tryz.func12 rfl fun c₀ cs hu => ?_
  apply wpS_seq
  apply wpS_region
  simp [wpOpsS, go_sem, recoverD, hu, Tryz.ntmps12, Exit.thenS]
  refine wpS_cond (t := false) (by simp [Act.eval, Array.replicate]) ?_
  simp only [Bool.false_eq_true, if_false]
  refine wpS_of_wp (wp_skip ?_)
  cases c₀
  simp_all [bodyPostS, results, Tryz.results12]
abbrev boP (g c : Nat) : Obj := .cells #[.int .i64 1, .int .u32 0, .slice (some ⟨g, 0, none⟩) 1 c, .slice none 0 0, .slice none 0 0, .slice none 0 0] 32 (0, 0)
abbrev boR (g c : Nat) : Obj := .cells #[.int .i64 3, .int .u32 0, .slice none 0 0, .slice (some ⟨g, 0, none⟩) 1 c, .slice none 0 0, .slice none 0 0] 32 (0, 0)
/-- What stays in the body: the two boxes, the cell of the answer. -/
def Fr (w W : World) (oA oB : Obj) : Prop := W.heap[w.heap.size]? = some oA ∧ W.heap[w.heap.size + 1]? = some oB ∧ (∃ r, W.heap[w.heap.size + 1 + 1]? = some (.cells #[.bool r] 4 (0, 0))) ∧ Below w.heap.size w W
theorem Fr.below {w W W' : World} {oA oB : Obj} (h : Fr w W oA oB) (hb : Below W.heap.size W W') : Fr w W' oA oB := by
  obtain ⟨h1, h2, ⟨r, h3⟩, h4⟩ := h
  exact ⟨(hb.block _ (blk_lt h1)).trans h1, (hb.block _ (blk_lt h2)).trans h2, ⟨r, (hb.block _ (blk_lt h3)).trans h3⟩, below_step h4 hb⟩
theorem Fr.drew {w W : World} {oA oB : Obj} (h : Fr w W oA oB) : Fr w W.drew oA oB := h.below (below_drew (Below.refl _ _))
theorem Fr.set {w W : World} {oA oB : Obj} (h : Fr w W oA oB) (r : Bool) : Fr w (W.setCell ⟨w.heap.size + 1 + 1, 0, none⟩ (.bool r)) oA oB ∧ (W.setCell ⟨w.heap.size + 1 + 1, 0, none⟩ (.bool r)).cell? ⟨w.heap.size + 1 + 1, 0, none⟩ = some (.bool r) := by
  obtain ⟨h1, h2, ⟨q, h3⟩, h4⟩ := h
  have h5 : (W.setCell ⟨w.heap.size + 1 + 1, 0, none⟩ (.bool r)).heap[w.heap.size + 1 + 1]? = some (.cells #[.bool r] 4 (0, 0)) := by simp [World.setCell, Array.getElem?_modify, h3]
  exact ⟨⟨(heap_setCell_other _ _ _ _ (by simp; omega)).trans h1, (heap_setCell_other _ _ _ _ (by simp)).trans h2, ⟨r, h5⟩, h4.setCell (by simp; omega) _⟩, by rw [Lib.cell_of_heap h5]; rfl⟩
theorem Fr.ans {w W : World} {oA oB : Obj} (h : Fr w W oA oB) : (∃ v, W.cell? ⟨w.heap.size + 1 + 1, 0, none⟩ = some v) ∧ W.frozen? ⟨w.heap.size + 1 + 1, 0, none⟩ = false := by
  obtain ⟨h1, h2, ⟨q, h3⟩, h4⟩ := h
  exact ⟨⟨.bool q, by rw [Lib.cell_of_heap h3]; rfl⟩, frozen_of_row _ _ _ _ _ h3⟩
theorem cells6 {W : World} {g t : Nat} {a b c d e f : Value} (h : W.heap[g]? = some (.cells #[a, b, c, d, e, f] t (0, 0))) : W.cell? ⟨g, 0, none⟩ = some a ∧ W.cell? ⟨g, 1, none⟩ = some b ∧ W.cell? ⟨g, 2, none⟩ = some c ∧ W.cell? ⟨g, 3, none⟩ = some d ∧ W.cell? ⟨g, 4, none⟩ = some e ∧ W.cell? ⟨g, 5, none⟩ = some f := by
  refine ⟨?_, ?_, ?_, ?_, ?_, ?_⟩ <;> (rw [Lib.cell_of_heap h]; rfl)
theorem Fr.made (w : World) (oA oB : Obj) : Fr w (((w.alloc oA).alloc oB).alloc (.cells #[.bool false] 4)) oA oB := by
  have hb := Below.refl (((w.alloc oA).alloc oB).alloc (.cells #[.bool false] 4)).heap.size (((w.alloc oA).alloc oB).alloc (.cells #[.bool false] 4))
  obtain ⟨h1, h2, h3, h4⟩ := three hb
  exact ⟨h1, h2, ⟨false, h3⟩, h4⟩
theorem isW2_ok (s : Int) (p0 p1 : Nat) (v : Value) (x : Int × Int) (l : List (Nat × Nat)) (L : List (Int × Int)) (w : World) (h : Ask w v p0 p1 x l L) :
    Calls Tryz.prog 13 #[.iface 50 (tp s p0 p1), .iface 58 (.agg #[.int .u32 0, v])] w fun e w' => e = .returned (.bool (!bndL x l L && crL x l L)) ∧ Below w.heap.size w w' := by
  have H1 := Aside0.mk (isW_ok s p0 p1 _ x l L _ h)
  obtain ⟨g, c, rfl⟩ := h.form
  generalize (!bndL x l L && crL x l L) = r at *
  clear h
  go_enter Tryz.func13, Tryz.ntmps13
  go_wp2_with fail
  refine (H1.out).mono ?_
  rintro e w2 ⟨rfl, hb⟩
  have HB2 := Aside0.mk hb
  clear hb
  go_wp2_with fail
  go_ret
  exact ⟨rfl, HB2.out⟩
theorem isI2_ok (s : Int) (p0 p1 : Nat) (v : Value) (x : Int × Int) (l : List (Nat × Nat)) (L : List (Int × Int)) (w : World) (h : Ask w v p0 p1 x l L) :
    Calls Tryz.prog 15 #[.iface 50 (tp s p0 p1), .iface 58 (.agg #[.int .u32 0, v])] w fun e w' => e = .returned (.bool (bndL x l L || crL x l L)) ∧ Below w.heap.size w w' := by
  have H1 := Aside0.mk (isI_ok s p0 p1 _ x l L _ h)
  obtain ⟨g, c, rfl⟩ := h.form
  generalize (bndL x l L || crL x l L) = r at *
  clear h
  go_enter Tryz.func15, Tryz.ntmps15
  go_wp2_with fail
  refine (H1.out).mono ?_
  rintro e w2 ⟨rfl, hb⟩
  have HB2 := Aside0.mk hb
  clear hb
  go_wp2_with fail
  go_ret
  exact ⟨rfl, HB2.out⟩
theorem isJ2_ok (s : Int) (p0 p1 : Nat) (v : Value) (x : Int × Int) (l : List (Nat × Nat)) (L : List (Int × Int)) (w : World) (h : Ask w v p0 p1 x l L) :
    Calls Tryz.prog 15 #[.iface 58 (.agg #[.int .u32 0, v]), .iface 50 (tp s p0 p1)] w fun e w' => e = .returned (.bool (bndL x l L || crL x l L)) ∧ Below w.heap.size w w' := by
  have H1 := Aside0.mk (isJ_ok s p0 p1 _ x l L _ h)
  obtain ⟨g, c, rfl⟩ := h.form
  generalize (bndL x l L || crL x l L) = r at *
  clear h
  go_enter Tryz.func15, Tryz.ntmps15
  go_wp2_with fail
  refine (H1.out).mono ?_
  rintro e w2 ⟨rfl, hb⟩
  have HB2 := Aside0.mk hb
  clear hb
  go_wp2_with fail
  go_ret
  exact ⟨rfl, HB2.out⟩
/-- What is asked of the arguments: a point, and such a polygon. -/
def Two (W : World) (g c h d c0 : Nat) (A0 : Option Addr) (p0 p1 : Nat) (x : Int × Int) (l : List (Nat × Nat)) (L : List (Int × Int)) : Prop :=
  Is l L ∧ (Sw p0 x.1 ∧ Sw p1 x.2) ∧ (∀ k, k + 1 < l.length → (L.getD k (0, 0)).2 = (L.getD (k + 1) (0, 0)).2 ∨ (L.getD k (0, 0)).1 = (L.getD (k + 1) (0, 0)).1) ∧ (l.length ≤ 1000 ∧ 0 < l.length) ∧ kQ.C W (some ⟨g, 0, none⟩) 1 [(p0, p1)] ∧ W.cell? ⟨h, 0, none⟩ = some (.slice A0 l.length c0) ∧ kQ.C W A0 l.length l
theorem Two.keep {W W' : World} {g c h d c0 : Nat} {A0 : Option Addr} {p0 p1 : Nat} {x : Int × Int} {l : List (Nat × Nat)} {L : List (Int × Int)} (H : Two W g c h d c0 A0 p0 p1 x l L) (hb : Below W.heap.size W W') : Two W' g c h d c0 A0 p0 p1 x l L :=
  ⟨H.1, H.2.1, H.2.2.1, H.2.2.2.1, Kd.C_below H.2.2.2.2.1 hb, pw_cell_below hb H.2.2.2.2.2.1, Kd.C_below H.2.2.2.2.2.2 hb⟩
theorem gW_ok (g c h d c0 : Nat) (A0 : Option Addr) (p0 p1 : Nat) (x : Int × Int) (l : List (Nat × Nat)) (L : List (Int × Int)) (w : World) (T : Two w g c h d c0 A0 p0 p1 x l L) :
    Calls Tryz.prog 6 #[geoP g c, geoR h d] w fun e w' => e = .returned (.bool (!bndL x l L && crL x l L)) ∧ Below w.heap.size w w' := by
  have HP := Aside0.mk (fun W (hb : Below w.heap.size w W) => valueP_ok g c p0 p1 W (T.keep hb).2.2.2.2.1)
  have HR := Aside0.mk (fun W (hb : Below w.heap.size w W) => valueR_ok h d c0 A0 l T.2.2.2.1.1 T.2.2.2.1.2 W (T.keep hb).2.2.2.2.2.1 (T.keep hb).2.2.2.2.2.2)
  have HC := Aside0.mk (fun W v (hL : Line W v l) => isW2_ok 0 p0 p1 v x l L W ⟨T.1, T.2.1, T.2.2.1, T.2.2.2.1, hL⟩)
  generalize (!bndL x l L && crL x l L) = r at *
  clear T
  go_enter_defers Tryz.func6, Tryz.ntmps6
  have F := Fr.made w (boP g c) (boR h d)
  go_wp2
  generalize ((w.alloc (boP g c)).alloc (boR h d)).alloc (.cells #[.bool false] 4) = V at *
  refine wp_region_noPanic ?_
  refine wp_region_held_drew (S := fun W => Fr w W (boP g c) (boR h d)) (by kernel_rfl) ?_ (fun hHeld => ?_)
  · exact F.drew
  refine take_ (oi := ?oi1) (i := 0) (N := some 5) (v := ?v1) ?hi1 (by kernel_rfl) (by kernel_rfl) (by kernel_rfl) ?hQ1 ?hN1 (Or.inl ⟨?hw1, ?hy1⟩) hHeld ?rest1
  case hi1 => simp only [List.getElem?_toArray, List.getElem?_cons_zero, List.getElem?_cons_succ]; rfl
  case hQ1 => exact fun _ _ _ h => h
  case hN1 => rfl
  case hw1 => rfl
  case hy1 => intro W hSw; obtain ⟨a0, a1, a2, a3, a4, a5⟩ := cells6 (show Fr w W _ _ from hSw).1; obtain ⟨b0, b1, b2, b3, b4, b5⟩ := cells6 (show Fr w W _ _ from hSw).2.1; go_simp; (try with_reducible rfl)
  simp only [Act.put, List.setIfInBounds_toArray, List.set_cons_zero, List.set_cons_succ]
  refine take_ (oi := ?oi2) (i := 2) (N := some 7) (v := ?v2) ?hi2 (by kernel_rfl) (by kernel_rfl) (by kernel_rfl) ?hQ2 ?hN2 (Or.inl ⟨?hw2, ?hy2⟩) hHeld ?rest2
  case hi2 => simp only [List.getElem?_toArray, List.getElem?_cons_zero, List.getElem?_cons_succ]; rfl
  case hQ2 => exact fun _ _ _ h => h
  case hN2 => rfl
  case hw2 => rfl
  case hy2 => intro W hSw; obtain ⟨a0, a1, a2, a3, a4, a5⟩ := cells6 (show Fr w W _ _ from hSw).1; obtain ⟨b0, b1, b2, b3, b4, b5⟩ := cells6 (show Fr w W _ _ from hSw).2.1; go_simp; (try with_reducible rfl)
  simp only [Act.put, List.setIfInBounds_toArray, List.set_cons_zero, List.set_cons_succ]
  refine wpAnyH_ready (rs := [1]) (by kernel_rfl) (by simp) ?_
  refine AllReadyH.cons (o := ?oi3) ?hi3 (fun K hK => ?step3) AllReadyH.nil
  case hi3 => simp only [List.getElem?_toArray, List.getElem?_cons_zero, List.getElem?_cons_succ]; rfl
  refine goes_ (N := some 6) Tryz.func14 (by kernel_rfl) rfl #[geoP g c] (by rfl) rfl rfl (by (try simp only [List.map_toArray, List.map_cons, List.map_nil]); rfl) ?_
  refine (HP.out _ hHeld.2.2.2).mono ?_
  rintro e v1 ⟨rfl, hb⟩
  refine ⟨_, rfl, ?_⟩
  refine hK.out _ _ (Fr.below hHeld hb) (fun hHeld => ?_)
  clear hK K hb
  simp only [Act.put, List.setIfInBounds_toArray, List.set_cons_zero, List.set_cons_succ]
  refine wpAnyH_ready (rs := [3]) (by kernel_rfl) (by simp) ?_
  refine AllReadyH.cons (o := ?oi4) ?hi4 (fun K hK => ?step4) AllReadyH.nil
  case hi4 => simp only [List.getElem?_toArray, List.getElem?_cons_zero, List.getElem?_cons_succ]; rfl
  refine goes_ (N := some 8) Tryz.func14 (by kernel_rfl) rfl #[geoR h d] (by rfl) rfl rfl (by (try simp only [List.map_toArray, List.map_cons, List.map_nil]); rfl) ?_
  refine (HR.out _ hHeld.2.2.2).mono ?_
  rintro e v3 ⟨v, rfl, hL, hb⟩
  have HLn := Aside0.mk hL
  obtain ⟨g5, c5, gp, cp, rfl, h6⟩ := hL
  clear h6
  refine ⟨_, rfl, ?_⟩
  refine hK.out _ _ (Fr.below hHeld hb) (fun hHeld => ?_)
  clear hK K hb
  simp only [Act.put, List.setIfInBounds_toArray, List.set_cons_zero, List.set_cons_succ]
  refine wpAnyH_ready (rs := [4]) (by kernel_rfl) (by simp) ?_
  refine AllReadyH.cons (o := ?oi5) ?hi5 (fun K hK => ?step5) AllReadyH.nil
  case hi5 => simp only [List.getElem?_toArray, List.getElem?_cons_zero, List.getElem?_cons_succ]; rfl
  refine goes_ (N := some 9) Tryz.func13 (by kernel_rfl) rfl #[.iface 50 (tp 0 p0 p1), .iface 58 (.agg #[.int .u32 0, .slice (some ⟨g5, 0, none⟩) 1 c5])] (by rfl) rfl rfl (by (try simp only [List.map_toArray, List.map_cons, List.map_nil]); rfl) ?_
  refine (HC.out _ _ HLn.out).mono ?_
  rintro e v4 ⟨rfl, hb⟩
  have HF9 := hHeld.below hb
  obtain ⟨⟨va, qa⟩, qf⟩ := HF9.ans
  clear HLn HC HP HR
  refine ⟨_, rfl, ?_⟩
  refine hK.out _ _ (Fr.below hHeld hb) (fun hHeld => ?_)
  clear hK K hb
  simp only [Act.put, List.setIfInBounds_toArray, List.set_cons_zero, List.set_cons_succ]
  refine wpAnyH_ready (rs := [5]) (by kernel_rfl) (by simp) ?_
  refine AllReadyH.cons (o := ?oi6) ?hi6 (fun K hK => ?step6) AllReadyH.nil
  case hi6 => simp only [List.getElem?_toArray, List.getElem?_cons_zero, List.getElem?_cons_succ]; rfl
  go_simp
  refine hK.out _ _ ((show Fr w _ _ _ from hHeld).set r).1 (fun hHeld => ?_)
  clear hK K
  refine wpAnyH_done (by kernel_rfl) ?_ _
  refine NoPanic.normal ?_
  go_wp2
  refine leaves_cons (f := 12) (args := #[.pointer (some ⟨w.heap.size + 1 + 1, 0, none⟩)]) (by simp) (by simp [go_sem]) ?_
  refine (caught_idle ⟨w.heap.size + 1 + 1, 0, none⟩ _).mono ?_
  rintro e u' w'' ⟨rfl, rfl, rfl⟩
  refine ⟨.bool r, ?_, rfl, ?_⟩
  · have hc := (HF9.set r).2
    simp [results, Tryz.results6, go_sem, hc]
  · exact (HF9.set r).1.2.2.2
theorem gI_ok (g c h d c0 : Nat) (A0 : Option Addr) (p0 p1 : Nat) (x : Int × Int) (l : List (Nat × Nat)) (L : List (Int × Int)) (w : World) (T : Two w g c h d c0 A0 p0 p1 x l L) :
    Calls Tryz.prog 7 #[geoP g c, geoR h d] w fun e w' => e = .returned (.bool (bndL x l L || crL x l L)) ∧ Below w.heap.size w w' := by
  have HP := Aside0.mk (fun W (hb : Below w.heap.size w W) => valueP_ok g c p0 p1 W (T.keep hb).2.2.2.2.1)
  have HR := Aside0.mk (fun W (hb : Below w.heap.size w W) => valueR_ok h d c0 A0 l T.2.2.2.1.1 T.2.2.2.1.2 W (T.keep hb).2.2.2.2.2.1 (T.keep hb).2.2.2.2.2.2)
  have HC := Aside0.mk (fun W v (hL : Line W v l) => isI2_ok 0 p0 p1 v x l L W ⟨T.1, T.2.1, T.2.2.1, T.2.2.2.1, hL⟩)
  generalize (bndL x l L || crL x l L) = r at *
  clear T
  go_enter_defers Tryz.func7, Tryz.ntmps7
  have F := Fr.made w (boP g c) (boR h d)
  go_wp2
  generalize ((w.alloc (boP g c)).alloc (boR h d)).alloc (.cells #[.bool false] 4) = V at *
  refine wp_region_noPanic ?_
  refine wp_region_held_drew (S := fun W => Fr w W (boP g c) (boR h d)) (by kernel_rfl) ?_ (fun hHeld => ?_)
  · exact F.drew
  refine take_ (oi := ?oi7) (i := 0) (N := some 5) (v := ?v7) ?hi7 (by kernel_rfl) (by kernel_rfl) (by kernel_rfl) ?hQ7 ?hN7 (Or.inl ⟨?hw7, ?hy7⟩) hHeld ?rest7
  case hi7 => simp only [List.getElem?_toArray, List.getElem?_cons_zero, List.getElem?_cons_succ]; rfl
  case hQ7 => exact fun _ _ _ h => h
  case hN7 => rfl
  case hw7 => rfl
  case hy7 => intro W hSw; obtain ⟨a0, a1, a2, a3, a4, a5⟩ := cells6 (show Fr w W _ _ from hSw).1; obtain ⟨b0, b1, b2, b3, b4, b5⟩ := cells6 (show Fr w W _ _ from hSw).2.1; go_simp; (try with_reducible rfl)
  simp only [Act.put, List.setIfInBounds_toArray, List.set_cons_zero, List.set_cons_succ]
  refine take_ (oi := ?oi8) (i := 2) (N := some 7) (v := ?v8) ?hi8 (by kernel_rfl) (by kernel_rfl) (by kernel_rfl) ?hQ8 ?hN8 (Or.inl ⟨?hw8, ?hy8⟩) hHeld ?rest8
  case hi8 => simp only [List.getElem?_toArray, List.getElem?_cons_zero, List.getElem?_cons_succ]; rfl
  case hQ8 => exact fun _ _ _ h => h
  case hN8 => rfl
  case hw8 => rfl
  case hy8 => intro W hSw; obtain ⟨a0, a1, a2, a3, a4, a5⟩ := cells6 (show Fr w W _ _ from hSw).1; obtain ⟨b0, b1, b2, b3, b4, b5⟩ := cells6 (show Fr w W _ _ from hSw).2.1; go_simp; (try with_reducible rfl)
  simp only [Act.put, List.setIfInBounds_toArray, List.set_cons_zero, List.set_cons_succ]
  refine wpAnyH_ready (rs := [1]) (by kernel_rfl) (by simp) ?_
  refine AllReadyH.cons (o := ?oi9) ?hi9 (fun K hK => ?step9) AllReadyH.nil
  case hi9 => simp only [List.getElem?_toArray, List.getElem?_cons_zero, List.getElem?_cons_succ]; rfl
  refine goes_ (N := some 6) Tryz.func14 (by kernel_rfl) rfl #[geoP g c] (by rfl) rfl rfl (by (try simp only [List.map_toArray, List.map_cons, List.map_nil]); rfl) ?_
  refine (HP.out _ hHeld.2.2.2).mono ?_
  rintro e v1 ⟨rfl, hb⟩
  refine ⟨_, rfl, ?_⟩
  refine hK.out _ _ (Fr.below hHeld hb) (fun hHeld => ?_)
  clear hK K hb
  simp only [Act.put, List.setIfInBounds_toArray, List.set_cons_zero, List.set_cons_succ]
  refine wpAnyH_ready (rs := [3]) (by kernel_rfl) (by simp) ?_
  refine AllReadyH.cons (o := ?oi10) ?hi10 (fun K hK => ?step10) AllReadyH.nil
  case hi10 => simp only [List.getElem?_toArray, List.getElem?_cons_zero, List.getElem?_cons_succ]; rfl
  refine goes_ (N := some 8) Tryz.func14 (by kernel_rfl) rfl #[geoR h d] (by rfl) rfl rfl (by (try simp only [List.map_toArray, List.map_cons, List.map_nil]); rfl) ?_
  refine (HR.out _ hHeld.2.2.2).mono ?_
  rintro e v3 ⟨v, rfl, hL, hb⟩
  have HLn := Aside0.mk hL
  obtain ⟨g5, c5, gp, cp, rfl, h6⟩ := hL
  clear h6
  refine ⟨_, rfl, ?_⟩
  refine hK.out _ _ (Fr.below hHeld hb) (fun hHeld => ?_)
  clear hK K hb
  simp only [Act.put, List.setIfInBounds_toArray, List.set_cons_zero, List.set_cons_succ]
  refine wpAnyH_ready (rs := [4]) (by kernel_rfl) (by simp) ?_
  refine AllReadyH.cons (o := ?oi11) ?hi11 (fun K hK => ?step11) AllReadyH.nil
  case hi11 => simp only [List.getElem?_toArray, List.getElem?_cons_zero, List.getElem?_cons_succ]; rfl
  refine goes_ (N := some 9) Tryz.func15 (by kernel_rfl) rfl #[.iface 50 (tp 0 p0 p1), .iface 58 (.agg #[.int .u32 0, .slice (some ⟨g5, 0, none⟩) 1 c5])] (by rfl) rfl rfl (by (try simp only [List.map_toArray, List.map_cons, List.map_nil]); rfl) ?_
  refine (HC.out _ _ HLn.out).mono ?_
  rintro e v4 ⟨rfl, hb⟩
  have HF9 := hHeld.below hb
  obtain ⟨⟨va, qa⟩, qf⟩ := HF9.ans
  clear HLn HC HP HR
  refine ⟨_, rfl, ?_⟩
  refine hK.out _ _ (Fr.below hHeld hb) (fun hHeld => ?_)
  clear hK K hb
  simp only [Act.put, List.setIfInBounds_toArray, List.set_cons_zero, List.set_cons_succ]
  refine wpAnyH_ready (rs := [5]) (by kernel_rfl) (by simp) ?_
  refine AllReadyH.cons (o := ?oi12) ?hi12 (fun K hK => ?step12) AllReadyH.nil
  case hi12 => simp only [List.getElem?_toArray, List.getElem?_cons_zero, List.getElem?_cons_succ]; rfl
  go_simp
  refine hK.out _ _ ((show Fr w _ _ _ from hHeld).set r).1 (fun hHeld => ?_)
  clear hK K
  refine wpAnyH_done (by kernel_rfl) ?_ _
  refine NoPanic.normal ?_
  go_wp2
  refine leaves_cons (f := 12) (args := #[.pointer (some ⟨w.heap.size + 1 + 1, 0, none⟩)]) (by simp) (by simp [go_sem]) ?_
  refine (caught_idle ⟨w.heap.size + 1 + 1, 0, none⟩ _).mono ?_
  rintro e u' w'' ⟨rfl, rfl, rfl⟩
  refine ⟨.bool r, ?_, rfl, ?_⟩
  · have hc := (HF9.set r).2
    simp [results, Tryz.results7, go_sem, hc]
  · exact (HF9.set r).1.2.2.2
theorem gJ_ok (g c h d c0 : Nat) (A0 : Option Addr) (p0 p1 : Nat) (x : Int × Int) (l : List (Nat × Nat)) (L : List (Int × Int)) (w : World) (T : Two w g c h d c0 A0 p0 p1 x l L) :
    Calls Tryz.prog 7 #[geoR h d, geoP g c] w fun e w' => e = .returned (.bool (bndL x l L || crL x l L)) ∧ Below w.heap.size w w' := by
  have HP := Aside0.mk (fun W (hb : Below w.heap.size w W) => valueP_ok g c p0 p1 W (T.keep hb).2.2.2.2.1)
  have HR := Aside0.mk (fun W (hb : Below w.heap.size w W) => valueR_ok h d c0 A0 l T.2.2.2.1.1 T.2.2.2.1.2 W (T.keep hb).2.2.2.2.2.1 (T.keep hb).2.2.2.2.2.2)
  have HC := Aside0.mk (fun W v (hL : Line W v l) => isJ2_ok 0 p0 p1 v x l L W ⟨T.1, T.2.1, T.2.2.1, T.2.2.2.1, hL⟩)
  generalize (bndL x l L || crL x l L) = r at *
  clear T
  go_enter_defers Tryz.func7, Tryz.ntmps7
  have F := Fr.made w (boR h d) (boP g c)
  go_wp2
  generalize ((w.alloc (boR h d)).alloc (boP g c)).alloc (.cells #[.bool false] 4) = V at *
  refine wp_region_noPanic ?_
  refine wp_region_held_drew (S := fun W => Fr w W (boR h d) (boP g c)) (by kernel_rfl) ?_ (fun hHeld => ?_)
  · exact F.drew
  refine take_ (oi := ?oi13) (i := 0) (N := some 5) (v := ?v13) ?hi13 (by kernel_rfl) (by kernel_rfl) (by kernel_rfl) ?hQ13 ?hN13 (Or.inl ⟨?hw13, ?hy13⟩) hHeld ?rest13
  case hi13 => simp only [List.getElem?_toArray, List.getElem?_cons_zero, List.getElem?_cons_succ]; rfl
  case hQ13 => exact fun _ _ _ h => h
  case hN13 => rfl
  case hw13 => rfl
  case hy13 => intro W hSw; obtain ⟨a0, a1, a2, a3, a4, a5⟩ := cells6 (show Fr w W _ _ from hSw).1; obtain ⟨b0, b1, b2, b3, b4, b5⟩ := cells6 (show Fr w W _ _ from hSw).2.1; go_simp; (try with_reducible rfl)
  simp only [Act.put, List.setIfInBounds_toArray, List.set_cons_zero, List.set_cons_succ]
  refine take_ (oi := ?oi14) (i := 2) (N := some 7) (v := ?v14) ?hi14 (by kernel_rfl) (by kernel_rfl) (by kernel_rfl) ?hQ14 ?hN14 (Or.inl ⟨?hw14, ?hy14⟩) hHeld ?rest14
  case hi14 => simp only [List.getElem?_toArray, List.getElem?_cons_zero, List.getElem?_cons_succ]; rfl
  case hQ14 => exact fun _ _ _ h => h
  case hN14 => rfl
  case hw14 => rfl
  case hy14 => intro W hSw; obtain ⟨a0, a1, a2, a3, a4, a5⟩ := cells6 (show Fr w W _ _ from hSw).1; obtain ⟨b0, b1, b2, b3, b4, b5⟩ := cells6 (show Fr w W _ _ from hSw).2.1; go_simp; (try with_reducible rfl)
  simp only [Act.put, List.setIfInBounds_toArray, List.set_cons_zero, List.set_cons_succ]
  refine wpAnyH_ready (rs := [1]) (by kernel_rfl) (by simp) ?_
  refine AllReadyH.cons (o := ?oi15) ?hi15 (fun K hK => ?step15) AllReadyH.nil
  case hi15 => simp only [List.getElem?_toArray, List.getElem?_cons_zero, List.getElem?_cons_succ]; rfl
  refine goes_ (N := some 6) Tryz.func14 (by kernel_rfl) rfl #[geoR h d] (by rfl) rfl rfl (by (try simp only [List.map_toArray, List.map_cons, List.map_nil]); rfl) ?_
  refine (HR.out _ hHeld.2.2.2).mono ?_
  rintro e v1 ⟨v, rfl, hL, hb⟩
  have HLn := Aside0.mk hL
  obtain ⟨g5, c5, gp, cp, rfl, h6⟩ := hL
  clear h6
  refine ⟨_, rfl, ?_⟩
  refine hK.out _ _ (Fr.below hHeld hb) (fun hHeld => ?_)
  clear hK K hb
  simp only [Act.put, List.setIfInBounds_toArray, List.set_cons_zero, List.set_cons_succ]
  refine wpAnyH_ready (rs := [3]) (by kernel_rfl) (by simp) ?_
  refine AllReadyH.cons (o := ?oi16) ?hi16 (fun K hK => ?step16) AllReadyH.nil
  case hi16 => simp only [List.getElem?_toArray, List.getElem?_cons_zero, List.getElem?_cons_succ]; rfl
  refine goes_ (N := some 8) Tryz.func14 (by kernel_rfl) rfl #[geoP g c] (by rfl) rfl rfl (by (try simp only [List.map_toArray, List.map_cons, List.map_nil]); rfl) ?_
  refine (HP.out _ hHeld.2.2.2).mono ?_
  rintro e v3 ⟨rfl, hb⟩
  have HLn := Aside0.mk (HLn.out.keep hb)
  refine ⟨_, rfl, ?_⟩
  refine hK.out _ _ (Fr.below hHeld hb) (fun hHeld => ?_)
  clear hK K hb
  simp only [Act.put, List.setIfInBounds_toArray, List.set_cons_zero, List.set_cons_succ]
  refine wpAnyH_ready (rs := [4]) (by kernel_rfl) (by simp) ?_
  refine AllReadyH.cons (o := ?oi17) ?hi17 (fun K hK => ?step17) AllReadyH.nil
  case hi17 => simp only [List.getElem?_toArray, List.getElem?_cons_zero, List.getElem?_cons_succ]; rfl
  refine goes_ (N := some 9) Tryz.func15 (by kernel_rfl) rfl #[.iface 58 (.agg #[.int .u32 0, .slice (some ⟨g5, 0, none⟩) 1 c5]), .iface 50 (tp 0 p0 p1)] (by rfl) rfl rfl (by (try simp only [List.map_toArray, List.map_cons, List.map_nil]); rfl) ?_
  refine (HC.out _ _ HLn.out).mono ?_
  rintro e v4 ⟨rfl, hb⟩
  have HF9 := hHeld.below hb
  obtain ⟨⟨va, qa⟩, qf⟩ := HF9.ans
  clear HLn HC HP HR
  refine ⟨_, rfl, ?_⟩
  refine hK.out _ _ (Fr.below hHeld hb) (fun hHeld => ?_)
  clear hK K hb
  simp only [Act.put, List.setIfInBounds_toArray, List.set_cons_zero, List.set_cons_succ]
  refine wpAnyH_ready (rs := [5]) (by kernel_rfl) (by simp) ?_
  refine AllReadyH.cons (o := ?oi18) ?hi18 (fun K hK => ?step18) AllReadyH.nil
  case hi18 => simp only [List.getElem?_toArray, List.getElem?_cons_zero, List.getElem?_cons_succ]; rfl
  go_simp
  refine hK.out _ _ ((show Fr w _ _ _ from hHeld).set r).1 (fun hHeld => ?_)
  clear hK K
  refine wpAnyH_done (by kernel_rfl) ?_ _
  refine NoPanic.normal ?_
  go_wp2
  refine leaves_cons (f := 12) (args := #[.pointer (some ⟨w.heap.size + 1 + 1, 0, none⟩)]) (by simp) (by simp [go_sem]) ?_
  refine (caught_idle ⟨w.heap.size + 1 + 1, 0, none⟩ _).mono ?_
  rintro e u' w'' ⟨rfl, rfl, rfl⟩
  refine ⟨.bool r, ?_, rfl, ?_⟩
  · have hc := (HF9.set r).2
    simp [results, Tryz.results7, go_sem, hc]
  · exact (HF9.set r).1.2.2.2
end Go.Proofs.YtjhgmpeoagndjaaGreat.GE
