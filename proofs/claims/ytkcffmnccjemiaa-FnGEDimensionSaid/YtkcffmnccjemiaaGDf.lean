/-
  Contracts of lines: lines of points become the program's. Condition: no line of more than 1000 points, at most 1000 lines.
-/
import Derived.Test.YtkcffmnccjemiaaGDe
namespace Go.Proofs.Ytkcffmnccjemiaa.GD
open Go.RowKit Go.Proofs.YtkcffmnccjemiaaW.PrintWords Go.Proofs.YtkcffmnccjemiaaW.PrintLast Go.Proofs.YtkcffmnccjemiaaW.PrintMore
set_option linter.unusedVariables false
set_option linter.unusedSimpArgs false
set_option maxRecDepth 100000
set_option maxHeartbeats 400000

def kL : Kd (Int × Option Addr × Nat × Nat) := Kd.pair (Kd.int .u32) kS
theorem infoL : (Try.prog.info? 47).map (fun i => (i.zero, i.size, i.bytes)) = some (some (.agg #[.int .u32 0, .slice none 0 0]), 2, 32) := by kernel_rfl
/-- The two cells of a line. -/
def Row2 (W : World) (b : Nat) : Prop := ∃ p0 p1 : Value, W.heap[b]? = some (.cells #[p0, p1] 47 (0, 0))
theorem Row2.below {W W' : World} {b : Nat} (h : Row2 W b) (hb : Below W.heap.size W W') : Row2 W' b := by
  obtain ⟨p0, p1, h⟩ := h
  exact ⟨p0, p1, (hb.block _ (blk_lt h)).trans h⟩
theorem cells2 {W : World} {g t : Nat} {a b : Value} (q : W.heap[g]? = some (.cells #[a, b] t (0, 0))) : W.cell? ⟨g, 0, none⟩ = some a ∧ W.cell? ⟨g, 1, none⟩ = some b := by
  refine ⟨?_, ?_⟩ <;> (rw [Lib.cell_of_heap q]; rfl)
theorem sets2 {w W : World} {b t : Nat} {a0 a1 : Value} (h : Below b w W) (hr : W.heap[b]? = some (.cells #[a0, a1] t (0, 0))) (v0 v1 : Value) :
    Below b w ((W.setCell ⟨b, 0, none⟩ v0).setCell ⟨b, 1, none⟩ v1) ∧ ((W.setCell ⟨b, 0, none⟩ v0).setCell ⟨b, 1, none⟩ v1).heap[b]? = some (.cells #[v0, v1] t (0, 0)) := by
  have h0 := h.setCell (p := ⟨b, 0, none⟩) (Nat.le_refl _) v0
  have h1 := h0.setCell (p := ⟨b, 1, none⟩) (Nat.le_refl _) v1
  refine ⟨h1, ?_⟩
  simp [World.setCell, Array.getElem?_modify, hr]
/-- One line: its number, its points where they lie. -/
theorem line1_ok (s : Int) (A0 : Option Addr) (c0 g : Nat) (l : List (Nat × Nat)) (hl : l.length ≤ 1000) (w : World) (hC : kQ.C w A0 l.length l) (hg : w.heap[g]? = some (.cells #[.int .u32 s] 22 (0, 0))) :
    Calls Try.prog 23 #[.slice A0 l.length c0, .pointer (some ⟨g, 0, none⟩)] w fun e w' => (∃ A n c, e = .returned (.agg #[.int .u32 s, .slice A n c])) ∧ Below w.heap.size w w' := by
  have hB := below_alloc (Below.refl w.heap.size w) (.cells #[.int .u32 0, .slice none 0 0] 47)
  have H := Aside0.mk (fun W (h : Below w.heap.size w W) => points_ok s A0 c0 l hl W (Kd.C_below hC h))
  have hN := heap_alloc_new w (.cells #[.int .u32 0, .slice none 0 0] 47)
  have hg2 := (hB.block _ (blk_lt hg)).trans hg
  have HB := Aside0.mk hB
  have HGG := Aside0.mk hg
  have hne : w.heap.size ≠ g := Nat.ne_of_gt (blk_lt hg)
  have c : (w.alloc (.cells #[.int .u32 0, .slice none 0 0] 47)).cell? ⟨g, 0, none⟩ = some (.int .u32 s) := by rw [Lib.cell_of_heap hg2]; rfl
  have hln : (l.map (fun p => (s, p))).length = l.length := List.length_map ..
  generalize l.length = n at *
  clear hC hB hg hg2
  go_enter Try.func23, Try.ntmps23
  go_wp2
  generalize w.alloc (.cells #[.int .u32 0, .slice none 0 0] 47) = V at *
  have hN : V.heap[w.heap.size]? = some (.cells #[.int .u32 0, .slice none 0 0] 47 (0, 0)) := hN
  refine wp_region_noPanic ?_
  refine wp_region_held_drew (S := fun W => Row2 W w.heap.size ∧ Below w.heap.size w W) (by kernel_rfl) ?_ (fun hHeld => ?_)
  · exact ⟨⟨_, _, hN⟩, below_drew HB.out⟩
  refine take_ (oi := ?oi1) (i := 0) (N := some 4) (v := ?v1) ?hi1 (by kernel_rfl) (by kernel_rfl) (by kernel_rfl) ?hQ1 ?hN1 (Or.inl ⟨?hw1, ?hy1⟩) hHeld ?rest1
  case hi1 => simp only [List.getElem?_toArray, List.getElem?_cons_zero, List.getElem?_cons_succ]; rfl
  case hQ1 => exact fun _ _ _ h => h
  case hN1 => rfl
  case hw1 => rfl
  case hy1 => intro W hSw; have z0 : W.cell? ⟨g, 0, none⟩ = some (.int .u32 s) := (by rw [Lib.cell_of_heap (((show _ ∧ Below w.heap.size w W from hSw).2.block g (blk_lt HGG.out)).trans HGG.out)]; rfl); go_simp; (try with_reducible rfl)
  simp only [Act.put, List.setIfInBounds_toArray, List.set_cons_zero, List.set_cons_succ]
  refine take_ (oi := ?oi2) (i := 1) (N := some 5) (v := ?v2) ?hi2 (by kernel_rfl) (by kernel_rfl) (by kernel_rfl) ?hQ2 ?hN2 (Or.inl ⟨?hw2, ?hy2⟩) hHeld ?rest2
  case hi2 => simp only [List.getElem?_toArray, List.getElem?_cons_zero, List.getElem?_cons_succ]; rfl
  case hQ2 => exact fun _ _ _ h => h
  case hN2 => rfl
  case hw2 => rfl
  case hy2 => intro W hSw; have z0 : W.cell? ⟨g, 0, none⟩ = some (.int .u32 s) := (by rw [Lib.cell_of_heap (((show _ ∧ Below w.heap.size w W from hSw).2.block g (blk_lt HGG.out)).trans HGG.out)]; rfl); go_simp; (try with_reducible rfl)
  simp only [Act.put, List.setIfInBounds_toArray, List.set_cons_zero, List.set_cons_succ]
  refine take_ (oi := ?oi3) (i := 2) (N := some 6) (v := ?v3) ?hi3 (by kernel_rfl) (by kernel_rfl) (by kernel_rfl) ?hQ3 ?hN3 (Or.inl ⟨?hw3, ?hy3⟩) hHeld ?rest3
  case hi3 => simp only [List.getElem?_toArray, List.getElem?_cons_zero, List.getElem?_cons_succ]; rfl
  case hQ3 => exact fun _ _ _ h => h
  case hN3 => rfl
  case hw3 => rfl
  case hy3 => intro W hSw; have z0 : W.cell? ⟨g, 0, none⟩ = some (.int .u32 s) := (by rw [Lib.cell_of_heap (((show _ ∧ Below w.heap.size w W from hSw).2.block g (blk_lt HGG.out)).trans HGG.out)]; rfl); go_simp; (try with_reducible rfl)
  simp only [Act.put, List.setIfInBounds_toArray, List.set_cons_zero, List.set_cons_succ]
  refine wpAnyH_ready (rs := [3]) (by kernel_rfl) (by simp) ?_
  refine AllReadyH.cons (o := ?oi4) ?hi4 (fun K hK => ?step4) AllReadyH.nil
  case hi4 => simp only [List.getElem?_toArray, List.getElem?_cons_zero, List.getElem?_cons_succ]; rfl
  refine goes_ (N := some 7) Try.func15 (by kernel_rfl) rfl #[.slice A0 n c0, .int .u32 s] (by rfl) rfl rfl (by (try simp only [List.map_toArray, List.map_cons, List.map_nil]); rfl) ?_
  refine (H.out _ hHeld.2).mono ?_
  rintro e v3 ⟨v, rfl, hR, hb⟩
  obtain ⟨A5, c5, rfl⟩ := Kd.R_slice hR
  clear hR
  obtain ⟨p0, p1, hrow⟩ := hHeld.1.below hb
  have hB3 := below_step hHeld.2 hb
  obtain ⟨s0, s1⟩ := cells2 hrow
  have f0 := Lib.frozen_of_heap hrow 0
  have f1 := Lib.frozen_of_heap hrow 1
  refine ⟨_, rfl, ?_⟩
  refine hK.out _ _ (⟨hHeld.1.below hb, below_step hHeld.2 hb⟩) (fun hHeld => ?_)
  clear hK K hb
  simp only [Act.put, List.setIfInBounds_toArray, List.set_cons_zero, List.set_cons_succ]
  refine take_ (oi := ?oi5) (i := 4) (N := some 8) (v := ?v5) ?hi5 (by kernel_rfl) (by kernel_rfl) (by kernel_rfl) ?hQ5 ?hN5 (Or.inl ⟨?hw5, ?hy5⟩) hHeld ?rest5
  case hi5 => simp only [List.getElem?_toArray, List.getElem?_cons_zero, List.getElem?_cons_succ]; rfl
  case hQ5 => exact fun _ _ _ h => h
  case hN5 => rfl
  case hw5 => rfl
  case hy5 => intro W hSw; have z0 : W.cell? ⟨g, 0, none⟩ = some (.int .u32 s) := (by rw [Lib.cell_of_heap (((show _ ∧ Below w.heap.size w W from hSw).2.block g (blk_lt HGG.out)).trans HGG.out)]; rfl); go_simp; (try with_reducible rfl)
  simp only [Act.put, List.setIfInBounds_toArray, List.set_cons_zero, List.set_cons_succ]
  refine wpAnyH_ready (rs := [5]) (by kernel_rfl) (by simp) ?_
  refine AllReadyH.cons (o := ?oi6) ?hi6 (fun K hK => ?step6) AllReadyH.nil
  case hi6 => simp only [List.getElem?_toArray, List.getElem?_cons_zero, List.getElem?_cons_succ]; rfl
  go_simp
  refine hK.out _ _ ⟨⟨_, _, (sets2 hB3 hrow (.int .u32 s) (.slice A5 n c5)).2⟩, (sets2 hB3 hrow (.int .u32 s) (.slice A5 n c5)).1⟩ (fun hHeld => ?_)
  clear hK K
  refine wpAnyH_done (by kernel_rfl) ?_ _
  refine NoPanic.normal ?_
  have hF := (sets2 hB3 hrow (.int .u32 s) (.slice A5 n c5)).2
  have hBF := (sets2 hB3 hrow (.int .u32 s) (.slice A5 n c5)).1
  clear s0 s1 f0 f1 hrow hB3 hHeld
  generalize (v3.setCell ⟨w.heap.size, 0, none⟩ (.int .u32 s)).setCell ⟨w.heap.size, 1, none⟩ (.slice A5 n c5) = Z at *
  go_wp2
  refine bodyPost_ret (results_cell_row rfl _ _ w.heap.size 47 #[.int .u32 s, .slice A5 n c5] (0, 0) _ rfl hF Try.underlying47 rfl (by kernel_rfl)) rfl ?_
  exact ⟨⟨_, _, _, rfl⟩, hBF⟩
/-- Some slice. -/
def SliceOut (e : Ending) : Prop := ∃ A n c, e = .returned (.slice A n c)
theorem turnedL_ok (s : Int) (A0 : Option Addr) (c0 g : Nat) (l : List (List (Nat × Nat))) (hl : l.length ≤ 1000) (hx : ∀ x ∈ l, x.length ≤ 1000) (w : World) (hC : kPts.C w A0 l.length l) (hg : w.heap[g]? = some (.cells #[.int .u32 s] 22 (0, 0))) :
    Calls Try.prog 22 #[.slice A0 l.length c0, .func (.func 23) #[] #[.pointer (some ⟨g, 0, none⟩)]] w fun e w' => SliceOut e ∧ Below w.heap.size w w' := by
  have HC := Aside0.mk (fun W (h : Below w.heap.size w W) => Kd.C_below hC h)
  have HX := Aside0.mk hx
  have HG := Aside0.mk hg
  have hglt := blk_lt hg
  clear hC hg hx
  go_enter Try.func22, Try.ntmps22
  go_wp2
  go_loopw [5, 10] (fun t5 t10 wr => ∃ (k : Nat) (acc : List (Int × Option Addr × Nat × Nat)), t10 = .int .i64 (k : Int) ∧ k ≤ l.length ∧ acc.length = k ∧ Aside0 (kL.R 47 wr w.heap.size (fun _ => True) t5 acc) ∧ Aside0 (Below w.heap.size w wr)) (fun _ t10 _ => l.length - (intOf t10).toNat)
  case atStart => exact ⟨0, [], rfl, Nat.zero_le _, rfl, ⟨Kd.R_nil _ _ _ _ _⟩, ⟨Below.refl _ _⟩⟩
  case round =>
    obtain ⟨k, acc, rfl, hk, hacc, HR, HB⟩ := hrel
    obtain ⟨A5, c5, rfl⟩ := Kd.R_slice HR.out
    rcases Nat.lt_or_ge k l.length with hlt | hge
    · obtain ⟨ad, x, A', c', rfl, hx, hcell, hle, hxC⟩ := at_row kQ 65 (HC.out wr HB.out) k hlt
      have hx1 : x.length ≤ 1000 := by
        rw [List.getElem?_eq_getElem hlt] at hx
        rw [← Option.some.inj hx]
        exact HX.out _ (List.getElem_mem hlt)
      have H1 := Aside0.mk (line1_ok s A' c' g x hx1 wr hxC ((HB.out.block g hglt).trans HG.out))
      have hla : (acc.length + 1) * 32 ≤ 140737488355328 := by omega
      have HLEN := Aside0.mk hacc
      clear hx hle hxC hx1 hacc
      generalize x.length = m at *
      go_wp2_with fail
      refine H1.out.mono ?_
      rintro e w2 ⟨⟨B, n2, d2, rfl⟩, hb2⟩
      have HR2 := Aside0.mk (Kd.R_below HR.out hb2)
      have HB2 := Aside0.mk (below_step HB.out hb2)
      have hs2 := HB2.out.size
      clear hb2 HR H1
      go_wp2_with ((with_reducible refine gate_builtin (b := .append) (xs := #[.tmp 14, .tmp 18]) rfl ?_); at_builtin; go_loud (refine Kd.R_append kL (w0 := w) (W := w2) w.heap.size rfl (.tmp 14) (.tmp 18) 48 47 (.agg #[.int .u32 0, .slice none 0 0]) 32 rfl Try.underlying48 infoL rfl (by decide) (by decide) (.slice A5 acc.length c5) acc ((s : Int), B, n2, d2) [.int .u32 s, .slice B n2 d2] (fun _ => True) (fun _ => False) rfl rfl ⟨[.int .u32 s], [.slice B n2 d2], rfl, rfl, rfl⟩ (fun z hz => hz.elim) (fun _ _ => trivial) HR2.out HB2.out hs2 hla ?_; intro v1 w3 ho hb3 hg3 hat; clear hg3 hat; have HO3 := Aside0.mk ho; have HB3 := Aside0.mk hb3; clear ho hb3))
      go_roundw
      case rel => exact ⟨k + 1, _, by go_num, by omega, by rw [List.length_append, HLEN.out]; rfl, HO3, HB3⟩
      case measure => simp [intOf]; omega
    · obtain rfl : k = l.length := by omega
      go_wp2
      go_ret
      exact ⟨⟨_, _, _, rfl⟩, HB.out⟩
theorem lines2_ok (s : Int) (A0 : Option Addr) (c0 : Nat) (l : List (List (Nat × Nat))) (hl : l.length ≤ 1000) (hx : ∀ x ∈ l, x.length ≤ 1000) (w : World) (hC : kPts.C w A0 l.length l) :
    Calls Try.prog 16 #[.slice A0 l.length c0, .int .u32 s] w fun e w' => SliceOut e ∧ Below w.heap.size w w' := by
  have hb := below_alloc (Below.refl w.heap.size w) (.cells #[.int .u32 s] 22)
  have H := Aside0.mk (turnedL_ok s A0 c0 w.heap.size l hl hx (w.alloc (.cells #[.int .u32 s] 22)) (Kd.C_below hC hb) (heap_alloc_new _ _))
  have HB := Aside0.mk hb
  clear hC hb hx
  go_enter Try.func16, Try.ntmps16
  go_wp2_with fail
  refine (H.out).mono ?_
  rintro e w2 ⟨⟨A, n, c, rfl⟩, hb⟩
  have HB2 := Aside0.mk (below_step HB.out hb)
  clear hb H HB
  go_wp2_with fail
  go_ret
  exact ⟨⟨_, _, _, rfl⟩, HB2.out⟩
end Go.Proofs.Ytkcffmnccjemiaa.GD
