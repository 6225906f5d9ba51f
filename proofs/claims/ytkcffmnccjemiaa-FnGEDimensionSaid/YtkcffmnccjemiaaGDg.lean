/-
  Contracts of polygons: polygons of lines become the program's. Condition: at most 1000 polygons, lines, points each.
-/
import Derived.Test.YtkcffmnccjemiaaGDf
namespace Go.Proofs.Ytkcffmnccjemiaa.GD
open Go.RowKit Go.Proofs.YtkcffmnccjemiaaW.PrintWords Go.Proofs.YtkcffmnccjemiaaW.PrintLast Go.Proofs.YtkcffmnccjemiaaW.PrintMore
set_option linter.unusedVariables false
set_option linter.unusedSimpArgs false
set_option maxRecDepth 100000
set_option maxHeartbeats 400000

theorem infoG : (Try.prog.info? 51).map (fun i => (i.zero, i.size, i.bytes)) = some (some (.agg #[.int .u32 0, .slice none 0 0]), 2, 32) := by kernel_rfl
def Row2p (W : World) (b : Nat) : Prop := ∃ p0 p1 : Value, W.heap[b]? = some (.cells #[p0, p1] 51 (0, 0))
theorem Row2p.below {W W' : World} {b : Nat} (h : Row2p W b) (hb : Below W.heap.size W W') : Row2p W' b := by
  obtain ⟨p0, p1, h⟩ := h
  exact ⟨p0, p1, (hb.block _ (blk_lt h)).trans h⟩
/-- A box that holds a geometry of this number. -/
def Box (W : World) (g : Nat) (s : Int) : Prop := ∃ a b c d e : Value, W.heap[g]? = some (.cells #[a, .int .u32 s, b, c, d, e] 28 (0, 0))
theorem Box.lt {W : World} {g : Nat} {s : Int} (h : Box W g s) : g < W.heap.size := by obtain ⟨_, _, _, _, _, h⟩ := h; exact blk_lt h
theorem Box.cell {W : World} {g : Nat} {s : Int} (h : Box W g s) : W.cell? ⟨g, 1, none⟩ = some (.int .u32 s) := by obtain ⟨_, _, _, _, _, h⟩ := h; exact (cells6 h).2.1
theorem Box.below {W W' : World} {g B : Nat} {s : Int} (h : Box W g s) (hb : Below B W W') (hB : g < B) : Box W' g s := by obtain ⟨a, b, c, d, e, h⟩ := h; exact ⟨a, b, c, d, e, (hb.block _ hB).trans h⟩
theorem pol1_ok (s : Int) (A0 : Option Addr) (c0 g : Nat) (l : List (List (Nat × Nat))) (hl : l.length ≤ 1000) (hx : ∀ x ∈ l, x.length ≤ 1000) (w : World) (hC : kPts.C w A0 l.length l) (hg : Box w g s) :
    Calls Try.prog 18 #[.slice A0 l.length c0, .pointer (some ⟨g, 0, none⟩)] w fun e w' => (∃ A n c, e = .returned (.agg #[.int .u32 s, .slice A n c])) ∧ Below w.heap.size w w' := by
  have hB := below_alloc (Below.refl w.heap.size w) (.cells #[.int .u32 0, .slice none 0 0] 51)
  have H := Aside0.mk (fun W (h : Below w.heap.size w W) => lines2_ok s A0 c0 l hl hx W (Kd.C_below hC h))
  have hN := heap_alloc_new w (.cells #[.int .u32 0, .slice none 0 0] 51)
  have HB := Aside0.mk hB
  have HGG := Aside0.mk hg
  have HLT := Aside0.mk hg.lt
  generalize l.length = n at *
  clear hC hB hg hx
  go_enter Try.func18, Try.ntmps18
  go_wp2
  generalize w.alloc (.cells #[.int .u32 0, .slice none 0 0] 51) = V at *
  have hN : V.heap[w.heap.size]? = some (.cells #[.int .u32 0, .slice none 0 0] 51 (0, 0)) := hN
  refine wp_region_noPanic ?_
  refine wp_region_held_drew (S := fun W => Row2p W w.heap.size ∧ Below w.heap.size w W) (by kernel_rfl) ?_ (fun hHeld => ?_)
  · exact ⟨⟨_, _, hN⟩, below_drew HB.out⟩
  refine take_ (oi := ?oi1) (i := 0) (N := some 4) (v := ?v1) ?hi1 (by kernel_rfl) (by kernel_rfl) (by kernel_rfl) ?hQ1 ?hN1 (Or.inl ⟨?hw1, ?hy1⟩) hHeld ?rest1
  case hi1 => simp only [List.getElem?_toArray, List.getElem?_cons_zero, List.getElem?_cons_succ]; rfl
  case hQ1 => exact fun _ _ _ h => h
  case hN1 => rfl
  case hw1 => rfl
  case hy1 => intro W hSw; have z0 := (HGG.out.below (show _ ∧ Below w.heap.size w W from hSw).2 HLT.out).cell; go_simp; (try with_reducible rfl)
  simp only [Act.put, List.setIfInBounds_toArray, List.set_cons_zero, List.set_cons_succ]
  refine take_ (oi := ?oi2) (i := 1) (N := some 5) (v := ?v2) ?hi2 (by kernel_rfl) (by kernel_rfl) (by kernel_rfl) ?hQ2 ?hN2 (Or.inl ⟨?hw2, ?hy2⟩) hHeld ?rest2
  case hi2 => simp only [List.getElem?_toArray, List.getElem?_cons_zero, List.getElem?_cons_succ]; rfl
  case hQ2 => exact fun _ _ _ h => h
  case hN2 => rfl
  case hw2 => rfl
  case hy2 => intro W hSw; have z0 := (HGG.out.below (show _ ∧ Below w.heap.size w W from hSw).2 HLT.out).cell; go_simp; (try with_reducible rfl)
  simp only [Act.put, List.setIfInBounds_toArray, List.set_cons_zero, List.set_cons_succ]
  refine take_ (oi := ?oi3) (i := 2) (N := some 6) (v := ?v3) ?hi3 (by kernel_rfl) (by kernel_rfl) (by kernel_rfl) ?hQ3 ?hN3 (Or.inl ⟨?hw3, ?hy3⟩) hHeld ?rest3
  case hi3 => simp only [List.getElem?_toArray, List.getElem?_cons_zero, List.getElem?_cons_succ]; rfl
  case hQ3 => exact fun _ _ _ h => h
  case hN3 => rfl
  case hw3 => rfl
  case hy3 => intro W hSw; have z0 := (HGG.out.below (show _ ∧ Below w.heap.size w W from hSw).2 HLT.out).cell; go_simp; (try with_reducible rfl)
  simp only [Act.put, List.setIfInBounds_toArray, List.set_cons_zero, List.set_cons_succ]
  refine take_ (oi := ?oi4) (i := 3) (N := some 7) (v := ?v4) ?hi4 (by kernel_rfl) (by kernel_rfl) (by kernel_rfl) ?hQ4 ?hN4 (Or.inl ⟨?hw4, ?hy4⟩) hHeld ?rest4
  case hi4 => simp only [List.getElem?_toArray, List.getElem?_cons_zero, List.getElem?_cons_succ]; rfl
  case hQ4 => exact fun _ _ _ h => h
  case hN4 => rfl
  case hw4 => rfl
  case hy4 => intro W hSw; have z0 := (HGG.out.below (show _ ∧ Below w.heap.size w W from hSw).2 HLT.out).cell; go_simp; (try with_reducible rfl)
  simp only [Act.put, List.setIfInBounds_toArray, List.set_cons_zero, List.set_cons_succ]
  refine take_ (oi := ?oi5) (i := 4) (N := some 8) (v := ?v5) ?hi5 (by kernel_rfl) (by kernel_rfl) (by kernel_rfl) ?hQ5 ?hN5 (Or.inl ⟨?hw5, ?hy5⟩) hHeld ?rest5
  case hi5 => simp only [List.getElem?_toArray, List.getElem?_cons_zero, List.getElem?_cons_succ]; rfl
  case hQ5 => exact fun _ _ _ h => h
  case hN5 => rfl
  case hw5 => rfl
  case hy5 => intro W hSw; have z0 := (HGG.out.below (show _ ∧ Below w.heap.size w W from hSw).2 HLT.out).cell; go_simp; (try with_reducible rfl)
  simp only [Act.put, List.setIfInBounds_toArray, List.set_cons_zero, List.set_cons_succ]
  refine wpAnyH_ready (rs := [5]) (by kernel_rfl) (by simp) ?_
  refine AllReadyH.cons (o := ?oi6) ?hi6 (fun K hK => ?step6) AllReadyH.nil
  case hi6 => simp only [List.getElem?_toArray, List.getElem?_cons_zero, List.getElem?_cons_succ]; rfl
  refine goes_ (N := some 9) Try.func16 (by kernel_rfl) rfl #[.slice A0 n c0, .int .u32 s] (by rfl) rfl rfl (by (try simp only [List.map_toArray, List.map_cons, List.map_nil]); rfl) ?_
  refine (H.out _ hHeld.2).mono ?_
  rintro e v5 ⟨⟨A5, n5, c5, rfl⟩, hb⟩
  obtain ⟨p0, p1, hrow⟩ := hHeld.1.below hb
  have hB3 := below_step hHeld.2 hb
  obtain ⟨s0, s1⟩ := cells2 hrow
  have f0 := Lib.frozen_of_heap hrow 0
  have f1 := Lib.frozen_of_heap hrow 1
  refine ⟨_, rfl, ?_⟩
  refine hK.out _ _ (⟨hHeld.1.below hb, below_step hHeld.2 hb⟩) (fun hHeld => ?_)
  clear hK K hb
  simp only [Act.put, List.setIfInBounds_toArray, List.set_cons_zero, List.set_cons_succ]
  refine take_ (oi := ?oi7) (i := 6) (N := some 10) (v := ?v7) ?hi7 (by kernel_rfl) (by kernel_rfl) (by kernel_rfl) ?hQ7 ?hN7 (Or.inl ⟨?hw7, ?hy7⟩) hHeld ?rest7
  case hi7 => simp only [List.getElem?_toArray, List.getElem?_cons_zero, List.getElem?_cons_succ]; rfl
  case hQ7 => exact fun _ _ _ h => h
  case hN7 => rfl
  case hw7 => rfl
  case hy7 => intro W hSw; have z0 := (HGG.out.below (show _ ∧ Below w.heap.size w W from hSw).2 HLT.out).cell; go_simp; (try with_reducible rfl)
  simp only [Act.put, List.setIfInBounds_toArray, List.set_cons_zero, List.set_cons_succ]
  refine wpAnyH_ready (rs := [7]) (by kernel_rfl) (by simp) ?_
  refine AllReadyH.cons (o := ?oi8) ?hi8 (fun K hK => ?step8) AllReadyH.nil
  case hi8 => simp only [List.getElem?_toArray, List.getElem?_cons_zero, List.getElem?_cons_succ]; rfl
  go_simp
  refine hK.out _ _ ⟨⟨_, _, (sets2 hB3 hrow (.int .u32 s) (.slice A5 n5 c5)).2⟩, (sets2 hB3 hrow (.int .u32 s) (.slice A5 n5 c5)).1⟩ (fun hHeld => ?_)
  clear hK K
  refine wpAnyH_done (by kernel_rfl) ?_ _
  refine NoPanic.normal ?_
  have hF := (sets2 hB3 hrow (.int .u32 s) (.slice A5 n5 c5)).2
  have hBF := (sets2 hB3 hrow (.int .u32 s) (.slice A5 n5 c5)).1
  clear s0 s1 f0 f1 hrow hB3 hHeld
  generalize (v5.setCell ⟨w.heap.size, 0, none⟩ (.int .u32 s)).setCell ⟨w.heap.size, 1, none⟩ (.slice A5 n5 c5) = Z at *
  go_wp2
  refine bodyPost_ret (results_cell_row rfl _ _ w.heap.size 51 #[.int .u32 s, .slice A5 n5 c5] (0, 0) _ rfl hF Try.underlying51 rfl (by kernel_rfl)) rfl ?_
  exact ⟨⟨_, _, _, rfl⟩, hBF⟩
theorem turnedP_ok (s : Int) (A0 : Option Addr) (c0 g : Nat) (l : List (List (List (Nat × Nat)))) (hl : l.length ≤ 1000) (hx : ∀ x ∈ l, x.length ≤ 1000 ∧ ∀ y ∈ x, y.length ≤ 1000) (w : World) (hC : kLns.C w A0 l.length l) (hg : Box w g s) :
    Calls Try.prog 17 #[.slice A0 l.length c0, .func (.func 18) #[] #[.pointer (some ⟨g, 0, none⟩)]] w fun e w' => SliceOut e ∧ Below w.heap.size w w' := by
  have HC := Aside0.mk (fun W (h : Below w.heap.size w W) => Kd.C_below hC h)
  have HX := Aside0.mk hx
  have HG := Aside0.mk hg
  have hglt := hg.lt
  clear hC hg hx
  go_enter Try.func17, Try.ntmps17
  go_wp2
  go_loopw [5, 10] (fun t5 t10 wr => ∃ (k : Nat) (acc : List (Int × Option Addr × Nat × Nat)), t10 = .int .i64 (k : Int) ∧ k ≤ l.length ∧ acc.length = k ∧ Aside0 (kL.R 51 wr w.heap.size (fun _ => True) t5 acc) ∧ Aside0 (Below w.heap.size w wr)) (fun _ t10 _ => l.length - (intOf t10).toNat)
  case atStart => exact ⟨0, [], rfl, Nat.zero_le _, rfl, ⟨Kd.R_nil _ _ _ _ _⟩, ⟨Below.refl _ _⟩⟩
  case round =>
    obtain ⟨k, acc, rfl, hk, hacc, HR, HB⟩ := hrel
    obtain ⟨A5, c5, rfl⟩ := Kd.R_slice HR.out
    rcases Nat.lt_or_ge k l.length with hlt | hge
    · obtain ⟨ad, x, A', c', rfl, hx, hcell, hle, hxC⟩ := at_row kPts 23 (HC.out wr HB.out) k hlt
      have hx1 : x.length ≤ 1000 ∧ ∀ y ∈ x, y.length ≤ 1000 := by
        rw [List.getElem?_eq_getElem hlt] at hx
        rw [← Option.some.inj hx]
        exact HX.out _ (List.getElem_mem hlt)
      have H1 := Aside0.mk (pol1_ok s A' c' g x hx1.1 hx1.2 wr hxC (HG.out.below HB.out hglt))
      have hla : (acc.length + 1) * 32 ≤ 140737488355328 := by omega
      have HLEN := Aside0.mk hacc
      clear hx hle hxC hx1 hacc
      generalize x.length = m at *
      go_wp2_with fail
      refine H1.out.mono ?_
      rintro e w2 ⟨⟨B, n2, d2, rfl⟩, hb2⟩
      have HR2 := Aside0.mk (Kd.R_below HR.out hb2)
      have HB2 := Aside0.mk (below_step HB.out hb2)
      have hs2 := HB2.out.size
      clear hb2 HR H1
      go_wp2_with ((with_reducible refine gate_builtin (b := .append) (xs := #[.tmp 14, .tmp 18]) rfl ?_); at_builtin; go_loud (refine Kd.R_append kL (w0 := w) (W := w2) w.heap.size rfl (.tmp 14) (.tmp 18) 52 51 (.agg #[.int .u32 0, .slice none 0 0]) 32 rfl Try.underlying52 infoG rfl (by decide) (by decide) (.slice A5 acc.length c5) acc ((s : Int), B, n2, d2) [.int .u32 s, .slice B n2 d2] (fun _ => True) (fun _ => False) rfl rfl ⟨[.int .u32 s], [.slice B n2 d2], rfl, rfl, rfl⟩ (fun z hz => hz.elim) (fun _ _ => trivial) HR2.out HB2.out hs2 hla ?_; intro v1 w3 ho hb3 hg3 hat; clear hg3 hat; have HO3 := Aside0.mk ho; have HB3 := Aside0.mk hb3; clear ho hb3))
      go_roundw
      case rel => exact ⟨k + 1, _, by go_num, by omega, by rw [List.length_append, HLEN.out]; rfl, HO3, HB3⟩
      case measure => simp [intOf]; omega
    · obtain rfl : k = l.length := by omega
      go_wp2
      go_ret
      exact ⟨⟨_, _, _, rfl⟩, HB.out⟩
end Go.Proofs.Ytkcffmnccjemiaa.GD
