/-
  Contracts of points, lines (one line). No condition.
-/
import Derived.Test.YtjhgmpeoagndjaaGreatGWf
namespace Go.Proofs.YtjhgmpeoagndjaaGreat.GE
open Go.RowKit Go.Proofs.YtjhgmpeoagndjaaGreatW.PrintWords Go.Proofs.YtjhgmpeoagndjaaGreatW.PrintLast Go.Proofs.YtjhgmpeoagndjaaGreatW.PrintMore
open Go.Proofs.YtjhgmpeoagndjaaGreat.Flo
set_option linter.unusedVariables false
set_option linter.unusedSimpArgs false
set_option maxRecDepth 100000
set_option maxHeartbeats 4000000

theorem points_ok (A0 : Option Addr) (c0 : Nat) (l : List (Nat × Nat)) (hl : l.length ≤ 1000) (w : World) (hC : kQ.C w A0 l.length l) :
    Calls Tryz.prog 22 #[.slice A0 l.length c0, .int .u32 0] w fun e w' => ∃ v, e = .returned v ∧ kP.R 50 w' w.heap.size (fun _ => True) v (l.map (fun p => ((0 : Int), p))) ∧ Below w.heap.size w w' := by
  have hb := below_alloc (Below.refl w.heap.size w) (.cells #[.int .u32 0] 27)
  have H := Aside0.mk (turned_ok A0 c0 w.heap.size l hl (w.alloc (.cells #[.int .u32 0] 27)) (Kd.C_below hC hb) (heap_alloc_new _ _))
  have HB := Aside0.mk hb
  clear hC hb
  go_enter Tryz.func22, Tryz.ntmps22
  go_wp2_with fail
  refine (H.out).mono ?_
  rintro e w2 ⟨v, rfl, hr, hb⟩
  have HB2 := Aside0.mk (HB.out.trans (hb.mono (by simp)))
  have HR2 := Aside0.mk (Kd.R_lower hr (show w.heap.size ≤ (w.alloc (.cells #[.int .u32 0] 27)).heap.size by simp))
  obtain ⟨A5, c5, rfl⟩ := Kd.R_slice hr
  clear hr hb H HB
  rw [List.length_map] at HR2
  go_wp2_with fail
  go_ret
  exact ⟨_, rfl, HR2.out, HB2.out⟩
theorem at_P {w : World} {A : Option Addr} {n : Nat} {xs : List (Int × Nat × Nat)} (h : kP.C w A n xs) (i : Nat) (p : Int × Nat × Nat) (h1 : xs[i]? = some p) : ∃ ad, A = some ad ∧ w.cell? (ad.add (i * 3)) = some (.int .u32 p.1) ∧ w.cell? ⟨(ad.add (i * 3)).block, (ad.add (i * 3)).off + 1, none⟩ = some (.float .f64 p.2.1) ∧ w.cell? ⟨(ad.add (i * 3)).block, (ad.add (i * 3)).off + 2, none⟩ = some (.float .f64 p.2.2) := by
  have hlen : i < xs.length := (List.getElem?_eq_some_iff.1 h1).1
  obtain ⟨ad, c, e, hl, hK, hc0⟩ := Kd.C_get h ((0, 0, 0) : Int × Nat × Nat) (i : Int) (by omega) (by have := h.1; omega)
  have hc : ∀ j u, c[j]? = some u → w.cell? (ad.add (i * 3 + j)) = some u := hc0
  rw [Int.toNat_natCast, List.getD_eq_getElem?_getD, h1, Option.getD_some] at hK
  obtain ⟨_, _, rfl, rfl, ⟨_, _, rfl, rfl, rfl⟩⟩ := hK
  exact ⟨ad, e, hc 0 _ rfl, by rw [← add_field _ _ 1 (by omega)]; exact hc 1 _ rfl, by rw [← add_field _ _ 2 (by omega)]; exact hc 2 _ rfl⟩

/-- A line: its number, its points' slice. -/
def kS : Kd (Option Addr × Nat × Nat) := Kd.scalar (fun s : Option Addr × Nat × Nat => Value.slice s.1 s.2.1 s.2.2) (fun _ => rfl)
def kL : Kd (Int × Option Addr × Nat × Nat) := Kd.pair (Kd.int .u32) kS
theorem infoL : (Tryz.prog.info? 54).map (fun i => (i.zero, i.size, i.bytes)) = some (some (.agg #[.int .u32 0, .slice none 0 0]), 2, 32) := by kernel_rfl
theorem at_L {w : World} {A : Option Addr} {n : Nat} {xs : List (Int × Option Addr × Nat × Nat)} (h : kL.C w A n xs) (i : Nat) (p : Int × Option Addr × Nat × Nat) (h1 : xs[i]? = some p) : ∃ ad, A = some ad ∧ w.cell? (ad.add (i * 2)) = some (.int .u32 p.1) ∧ w.cell? ⟨(ad.add (i * 2)).block, (ad.add (i * 2)).off + 1, none⟩ = some (.slice p.2.1 p.2.2.1 p.2.2.2) := by
  have hlen : i < xs.length := (List.getElem?_eq_some_iff.1 h1).1
  obtain ⟨ad, c, e, hl, hK, hc0⟩ := Kd.C_get h ((0, none, 0, 0) : Int × Option Addr × Nat × Nat) (i : Int) (by omega) (by have := h.1; omega)
  have hc : ∀ j u, c[j]? = some u → w.cell? (ad.add (i * 2 + j)) = some u := hc0
  rw [Int.toNat_natCast, List.getD_eq_getElem?_getD, h1, Option.getD_some] at hK
  obtain ⟨_, _, rfl, rfl, rfl⟩ := hK
  exact ⟨ad, e, hc 0 _ rfl, by rw [← add_field _ _ 1 (by omega)]; exact hc 1 _ rfl⟩
/-- The program's points, as they are read. -/
def Pts (W : World) (g : Nat) (l : List (Nat × Nat)) : Prop := kP.C W (some ⟨g, 0, none⟩) l.length (l.map (fun p => ((0 : Int), p)))
theorem Pts.keep {W W' : World} {g : Nat} {l : List (Nat × Nat)} (h : Pts W g l) (hb : Below W.heap.size W W') : Pts W' g l := Kd.C_below h hb
theorem Pts.set {W : World} {g b : Nat} {l : List (Nat × Nat)} (h : Pts W g l) (hne : g ≠ b) (j : Nat) (v : Value) : Pts (W.setCell ⟨b, j, none⟩ v) g l := by
  obtain ⟨h1, h2, h3⟩ := h
  refine ⟨h1, h2, fun hn => ?_⟩
  obtain ⟨ad, e, hc⟩ := h3 hn
  cases e
  refine ⟨_, rfl, fun j p hj => ?_⟩
  obtain ⟨c, hs, hr, hcell⟩ := hc j p hj
  refine ⟨c, hs, hr, fun i u hu => ?_⟩
  have h5 := hcell i u hu
  rw [add_plain] at h5 ⊢
  rw [cell_far (by simpa using hne)]
  exact h5
theorem points_ok2 (A0 : Option Addr) (c0 : Nat) (l : List (Nat × Nat)) (hl : l.length ≤ 1000) (h0 : 0 < l.length) (w : World) (hC : kQ.C w A0 l.length l) :
    Calls Tryz.prog 22 #[.slice A0 l.length c0, .int .u32 0] w fun e w' => ∃ g c, e = .returned (.slice (some ⟨g, 0, none⟩) l.length c) ∧ w.heap.size ≤ g ∧ Pts w' g l ∧ Below w.heap.size w w' := by
  refine (points_ok A0 c0 l hl w hC).mono ?_
  rintro e w' ⟨v, rfl, hr, hb⟩
  obtain ⟨g, c, rfl, hg, -⟩ := Kd.R_form hr (by rw [List.length_map]; exact h0)
  obtain ⟨A, c', he, hle, hC⟩ := Kd.R_reads hr
  cases he
  rw [List.length_map] at hC ⊢
  exact ⟨g, c, rfl, hg, hC, hb⟩
theorem lines1_ok (A0 : Option Addr) (c0 g : Nat) (l : List (Nat × Nat)) (hl : l.length ≤ 1000) (h0 : 0 < l.length) (w : World) (hC : kQ.C w A0 l.length l) (hg : w.heap[g]? = some (.cells #[.int .u32 0] 27 (0, 0))) :
    Calls Tryz.prog 33 #[.slice A0 l.length c0, .pointer (some ⟨g, 0, none⟩)] w fun e w' => ∃ gp c, e = .returned (.agg #[.int .u32 0, .slice (some ⟨gp, 0, none⟩) l.length c]) ∧ Pts w' gp l ∧ Below w.heap.size w w' := by
  have hc : w.cell? ⟨g, 0, none⟩ = some (.int .u32 0) := by rw [Lib.cell_of_heap hg]; rfl
  have hb1 := below_alloc (Below.refl w.heap.size w) (.cells #[.int .u32 0, .slice none 0 0] 54)
  have hlt := blk_lt hg
  have hne : ¬ g = w.heap.size := by omega
  have H := Aside0.mk (points_ok2 A0 c0 l hl h0 ((w.alloc (.cells #[.int .u32 0, .slice none 0 0] 54)).drew) (Kd.C_below hC (below_drew hb1)))
  have HH := Aside0.mk (heap_alloc_new w (.cells #[.int .u32 0, .slice none 0 0] 54))
  have HC := Aside0.mk (show ((w.alloc (.cells #[.int .u32 0, .slice none 0 0] 54)).drew).cell? ⟨g, 0, none⟩ = some (.int .u32 0) from pw_cell_below (below_drew hb1) hc)
  have HL : Aside0 (w.heap.size < ((w.alloc (.cells #[.int .u32 0, .slice none 0 0] 54)).drew).heap.size) := ⟨by simp⟩
  have HL2 : Aside0 (w.heap.size ≤ ((w.alloc (.cells #[.int .u32 0, .slice none 0 0] 54)).drew).heap.size) := ⟨by simp⟩
  have HB0 := Aside0.mk (below_drew hb1)
  clear hC hb1
  go_enter Tryz.func33, Tryz.ntmps33
  go_wp2
  refine wp_region_noPanic ?_
  refine wp_region_held_drew (S := fun W => W.cell? ⟨g, 0, none⟩ = some (.int .u32 0) ∧ Below w.heap.size w W) (by kernel_rfl) ?_ (fun hHeld => ?_)
  · (first | (go_split_ands; refine ⟨?_, ?_⟩ <;> assumption) | (go_split_ands; exact ⟨pw_cell_below hb (by assumption), below_step (by assumption) hb⟩) | exact ⟨HC.out, HB0.out⟩)
  refine take_ (oi := ?oi1) (i := 0) (N := some 4) (v := ?v1) ?hi1 (by kernel_rfl) (by kernel_rfl) (by kernel_rfl) ?hQ1 ?hN1 (Or.inl ⟨?hw1, ?hy1⟩) (by assumption) ?rest1
  case hi1 => simp only [List.getElem?_toArray, List.getElem?_cons_zero, List.getElem?_cons_succ]; rfl
  case hQ1 => exact fun _ _ _ h => h
  case hN1 => rfl
  case hw1 => rfl
  case hy1 => intro W hSw; (try dsimp only at hSw); go_split_ands; go_simp; (try with_reducible rfl)
  simp only [Act.put, List.setIfInBounds_toArray, List.set_cons_zero, List.set_cons_succ]
  refine take_ (oi := ?oi2) (i := 1) (N := some 5) (v := ?v2) ?hi2 (by kernel_rfl) (by kernel_rfl) (by kernel_rfl) ?hQ2 ?hN2 (Or.inl ⟨?hw2, ?hy2⟩) (by assumption) ?rest2
  case hi2 => simp only [List.getElem?_toArray, List.getElem?_cons_zero, List.getElem?_cons_succ]; rfl
  case hQ2 => exact fun _ _ _ h => h
  case hN2 => rfl
  case hw2 => rfl
  case hy2 => intro W hSw; (try dsimp only at hSw); go_split_ands; go_simp; (try with_reducible rfl)
  simp only [Act.put, List.setIfInBounds_toArray, List.set_cons_zero, List.set_cons_succ]
  refine take_ (oi := ?oi3) (i := 2) (N := some 6) (v := ?v3) ?hi3 (by kernel_rfl) (by kernel_rfl) (by kernel_rfl) ?hQ3 ?hN3 (Or.inl ⟨?hw3, ?hy3⟩) (by assumption) ?rest3
  case hi3 => simp only [List.getElem?_toArray, List.getElem?_cons_zero, List.getElem?_cons_succ]; rfl
  case hQ3 => exact fun _ _ _ h => h
  case hN3 => rfl
  case hw3 => rfl
  case hy3 => intro W hSw; (try dsimp only at hSw); go_split_ands; go_simp; (try with_reducible rfl)
  simp only [Act.put, List.setIfInBounds_toArray, List.set_cons_zero, List.set_cons_succ]
  refine wpAnyH_ready (rs := [3]) (by kernel_rfl) (by simp) ?_
  refine AllReadyH.cons (o := ?oi4) ?hi4 (fun K hK => ?step4) AllReadyH.nil
  case hi4 => simp only [List.getElem?_toArray, List.getElem?_cons_zero, List.getElem?_cons_succ]; rfl
  refine goes_ (N := some 7) Tryz.func22 (by kernel_rfl) rfl #[.slice A0 l.length c0, .int .u32 0] (by rfl) rfl rfl (by (try simp only [List.map_toArray, List.map_cons, List.map_nil]); rfl) ?_
  refine (H.out ).mono ?_
  rintro e v3 ⟨gp, c, rfl, hgp, hr, hb⟩
  refine ⟨_, rfl, ?_⟩
  refine hK.out _ _ ?_ (fun hHeld => ?_)
  · (first | (go_split_ands; refine ⟨?_, ?_⟩ <;> assumption) | (go_split_ands; exact ⟨pw_cell_below hb (by assumption), below_step (by assumption) hb⟩) | exact ⟨HC.out, HB0.out⟩)
  clear hK K
  simp only [Act.put, List.setIfInBounds_toArray, List.set_cons_zero, List.set_cons_succ]
  refine take_ (oi := ?oi5) (i := 4) (N := some 8) (v := ?v5) ?hi5 (by kernel_rfl) (by kernel_rfl) (by kernel_rfl) ?hQ5 ?hN5 (Or.inl ⟨?hw5, ?hy5⟩) (by assumption) ?rest5
  case hi5 => simp only [List.getElem?_toArray, List.getElem?_cons_zero, List.getElem?_cons_succ]; rfl
  case hQ5 => exact fun _ _ _ h => h
  case hN5 => rfl
  case hw5 => rfl
  case hy5 => intro W hSw; (try dsimp only at hSw); go_split_ands; go_simp; (try with_reducible rfl)
  simp only [Act.put, List.setIfInBounds_toArray, List.set_cons_zero, List.set_cons_succ]
  refine wpAnyH_ready (rs := [5]) (by kernel_rfl) (by simp) ?_
  refine AllReadyH.cons (o := ?oi6) ?hi6 (fun K hK => ?step6) AllReadyH.nil
  case hi6 => simp only [List.getElem?_toArray, List.getElem?_cons_zero, List.getElem?_cons_succ]; rfl
  have hh2 : v3.heap[w.heap.size]? = some (.cells #[.int .u32 0, .slice none 0 0] 54 (0, 0)) := (hb.block _ HL.out).trans HH.out
  have HR := Aside0.mk (show gp ≠ w.heap.size ∧ Pts v3 gp l from ⟨by have := HL.out; omega, hr⟩)
  have HB := Aside0.mk (HB0.out.trans (hb.mono HL2.out))
  clear hr hb hgp
  have q0 : v3.cell? ⟨w.heap.size, 0, none⟩ = some (.int .u32 0) := by rw [Lib.cell_of_heap hh2]; rfl
  have q1 : v3.cell? ⟨w.heap.size, 1, none⟩ = some (.slice none 0 0) := by rw [Lib.cell_of_heap hh2]; rfl
  have q2 : ∀ k, v3.frozen? ⟨w.heap.size, k, none⟩ = false := fun k => by rw [World.frozen?, hh2]; rfl
  go_simp
  refine hK.out _ _ ⟨by rw [cell_far (by simpa using hne), cell_far (by simpa using hne)]; exact hHeld.1, below_set (below_set HB.out (Nat.le_refl _)) (Nat.le_refl _)⟩ (fun hHeld2 => ?_)
  clear hK K
  refine wpAnyH_done (by kernel_rfl) ?_ _
  refine NoPanic.normal ?_
  have hF := blk_set (blk_set hh2 0 (.int .u32 0)) 1 (.slice (some ⟨gp, 0, none⟩) l.length c)
  have hP := (HR.out.2.set HR.out.1 0 (.int .u32 0)).set HR.out.1 1 (.slice (some ⟨gp, 0, none⟩) l.length c)
  have hB := hHeld2.2
  rw [show (((#[.int .u32 0, .slice none 0 0] : Array Value).setIfInBounds 0 (.int .u32 0)).setIfInBounds 1 (.slice (some ⟨gp, 0, none⟩) l.length c)) = #[.int .u32 0, .slice (some ⟨gp, 0, none⟩) l.length c] from rfl] at hF
  generalize (v3.setCell ⟨w.heap.size, 0, none⟩ (.int .u32 0)).setCell ⟨w.heap.size, 1, none⟩ (.slice (some ⟨gp, 0, none⟩) l.length c) = v4 at *
  clear hh2 q0 q1 q2 hHeld hHeld2 HR HB HB0 HC HH HL HL2 H
  go_wp2
  refine bodyPost_ret (results_cell_row rfl _ _ w.heap.size 54 #[.int .u32 0, .slice (some ⟨gp, 0, none⟩) l.length c] (0, 0) _ rfl hF Tryz.underlying54 rfl (by kernel_rfl)) rfl ?_
  exact ⟨gp, c, rfl, hP, hB⟩
end Go.Proofs.YtjhgmpeoagndjaaGreat.GE
