/-
  Contracts of sparse.Insert, Min, Max, Equals. Condition: at most 1000 numbers.
-/
import Derived.Test.YtlghbhkpdlkhjaaDoorISa
import Derived.Deep.RegionLaw
namespace Go.Proofs.YtlghbhkpdlkhjaaDoor.PIS
open Go.RowKit Go.Proofs.YtlghbhkpdlkhjaaDoorW.PrintWords Go.Proofs.YtlghbhkpdlkhjaaDoorW.PrintLast Go.Proofs.YtlghbhkpdlkhjaaDoorW.PrintMore
set_option linter.unusedVariables false
set_option linter.unusedSimpArgs false
set_option maxRecDepth 100000
set_option maxHeartbeats 1000000

theorem infoI64 : (Tryd.prog.info? 3).map (fun i => (i.zero, i.size, i.bytes)) = some (some (.int .i64 0), 1, 8) := by kernel_rfl
def ins (x : Int) (l : List Int) : List Int := l.take (idx x l) ++ [x] ++ l.drop (idx x l)
theorem reads_int {w : World} {A : Option Addr} {n : Nat} {xs : List Int} (h : Kd.C (Kd.int .i64) w A n xs) : ReadsRow (fun (x : Int) cs => cs = [Value.int .i64 x]) 1 w A n xs := h
theorem one_row (w : World) (x : Int) : Kd.C (Kd.int .i64) (w.alloc (.cells #[.int .i64 x] 3)).drew (some ⟨w.heap.size, 0, none⟩) 1 [x] :=
  Kd.C_drew (Kd.R_reads' (Kd.R_of_own (w := w.alloc (.cells #[.int .i64 x] 3)) (base := w.heap.size) (e := 3) (v := .slice (some ⟨w.heap.size, 0, none⟩) 1 1) (xs := [x]) (ok := fun _ => True) (enc := Value.int .i64) (h1 := fun _ => rfl) ⟨rfl, .inr ⟨w.heap.size, 1, #[.int .i64 x], rfl, Nat.le_refl _, heap_alloc_new _ _, Nat.le_refl _, by decide, rfl, rfl⟩⟩ (fun _ _ => trivial))).2.2
theorem empty_own (w : World) : Kd.R (Kd.int .i64) 3 (w.alloc (.cells #[] 3)) w.heap.size (fun _ => True) (.slice (some ⟨w.heap.size, 0, none⟩) 0 0) [] :=
  Kd.R_of_own (enc := Value.int .i64) (h1 := fun _ => rfl) ⟨rfl, .inr ⟨w.heap.size, 0, #[], rfl, Nat.le_refl _, heap_alloc_new _ _, Nat.le_refl _, Nat.zero_le _, rfl, rfl⟩⟩ (fun _ _ => trivial)
theorem insert_old (q : Nat) (l : List Int) (x : Int) (w : World) (h : SpAt w q l) (hl : l.length ≤ 900) (hh : hasB x l = true) :
    Calls Tryd.prog 71 #[.pointer (some ⟨q, 0, none⟩), .int .i64 x] w fun e w' => e = .returned (.bool false) ∧ w' = w := by
  have HA := Aside0.mk (has_ok q l x w h (by omega))
  rw [hh] at HA
  go_enter Tryd.func71, Tryd.ntmps71
  go_wp2_with (go_at_call 75; refine HA.out.mono ?_; rintro e w2 ⟨rfl, rfl⟩)
  go_ret
  exact ⟨rfl, rfl⟩
theorem insert_new (q : Nat) (l : List Int) (x : Int) (w : World) (h : SpAt w q l) (hl : l.length ≤ 900) (hh : hasB x l = false) :
    Calls Tryd.prog 71 #[.pointer (some ⟨q, 0, none⟩), .int .i64 x] w fun e w' => e = .returned (.bool true) ∧ ∃ w1 v1, Below w.heap.size w w1 ∧ Kd.R (Kd.int .i64) 3 w1 w.heap.size (fun _ => True) v1 (ins x l) ∧ w' = w1.setCell ⟨q, 0, none⟩ v1 := by
  have HH := Aside0.mk (has_ok q l x w h (by omega))
  rw [hh] at HH
  have HA := Aside0.mk (at_ok q l x w h (by omega))
  obtain ⟨A, c, hb, hc, hC⟩ := h
  have h0 : w.cell? ⟨q, 0, none⟩ = some (.slice A l.length c) := by rw [Lib.cell_of_heap hb]; rfl
  have z0 : w.frozen? ⟨q, 0, none⟩ = false := Lib.frozen_of_heap hb _
  have hix := idx_le x l
  have HC := Aside0.mk hC
  clear hC hb
  have hq : q < w.heap.size := World.block_lt_of_cell? w _ h0
  have hq' : ¬ q = w.heap.size := by omega
  have htl : (l.take (idx x l)).length = idx x l := by rw [List.length_take]; omega
  have hdl : (l.drop (idx x l)).length = l.length - idx x l := List.length_drop
  have HT : Aside0 (Kd.C (Kd.int .i64) (w.alloc (.cells #[] 3)) A (idx x l) (l.take (idx x l))) := ⟨by have h := Kd.C_below (Kd.C_take HC.out hix) (below_alloc (Below.refl _ _) (.cells #[] 3)); rwa [htl] at h⟩
  have HDr : Aside0 (Kd.C (Kd.int .i64) w (if c = idx x l then A else A.map (fun z => z.add (idx x l))) (l.length - idx x l) (l.drop (idx x l))) := ⟨by
    have h := Kd.C_drop HC.out hix hc
    rw [hdl, show (fun z : Addr => z.add (idx x l * (Kd.int .i64).sz)) = fun z => z.add (idx x l) from by funext z; show z.add (idx x l * 1) = _; rw [Nat.mul_one]] at h
    exact h⟩
  clear HC
  go_enter Tryd.func71, Tryd.ntmps71
  go_wp2_with (first | (go_at_call 75; refine HH.out.mono ?_; rintro e w2 ⟨rfl, hw⟩; subst w2) | (go_at_call 97; refine HA.out.mono ?_; rintro e w2 ⟨rfl, hw⟩; subst w2) | ((with_reducible refine gate_builtin (b := .append) (xs := #[.tmp 13, .tmp 19]) rfl ?_); at_builtin; refine Kd.R_append_rows (Kd.int .i64) (Rr := (Kd.int .i64).K w) (w0 := w) w.heap.size rfl (.tmp 13) (.tmp 19) 22 3 (.int .i64 0) 8 rfl Tryd.underlying22 infoI64 rfl (by decide) (by omega) (.slice (some ⟨w.heap.size, 0, none⟩) 0 0) [] (l.take (idx x l)) A (idx x l) c (fun _ => True) (fun _ => False) rfl rfl ?aO ?aR (fun _ _ h => h) (fun _ hk => hk.elim) (fun _ _ => trivial) ?aB ?aS ?aL ?_; (case aO => exact empty_own w); (case aR => exact HT.out); (case aB => exact below_alloc (Below.refl _ _) _); (case aS => simp); (case aL => simp; omega); intro v1 w5 ho hb5 hg5 hat; clear hg5 hat; have HO5 := Aside0.mk (show Kd.R (Kd.int .i64) 3 w5 w.heap.size (fun _ => True) v1 (l.take (idx x l)) by simpa using ho); have HBw := Aside0.mk hb5; have hc5 := (hb5.cell (World.block_lt_of_cell? w _ h0)).trans h0; have hz5 := (hb5.frozen (World.block_lt_of_cell? w _ h0)).trans z0; have hs5 : q < w5.heap.size := Nat.lt_of_lt_of_le hq hb5.size; have hs5' : ¬ q = w5.heap.size := (by omega); clear ho hb5))
  go_region_law (first | (refine Kd.R_append_rows_step (Kd.int .i64) (Rr := fun (x : Int) cs => cs = [Value.int .i64 x]) (w0 := w) w.heap.size (by rfl) (.tmp 22) (.tmp 24) 22 3 (.int .i64 0) 8 (by rfl) Tryd.underlying22 infoI64 (by rfl) (by decide) (by omega) v1 (l.take (idx x l)) [x] (some ⟨w5.heap.size, 0, none⟩) 1 1 (fun _ => True) (fun _ => False) (by rfl) (by rfl) ?aO ?aR (fun _ _ h => h) (fun _ hk => hk.elim) (fun _ _ => trivial) ?aB ?aS ?aL ?_; (case aO => (with_reducible repeat (first | apply Kd.R_alloc | apply Kd.R_drewN | apply Kd.R_drew)); exact HO5.out); (case aR => exact reads_int (one_row w5 x)); (case aB => (repeat (first | (with_reducible exact HBw.out) | (with_reducible apply below_drew) | (with_reducible apply pw_below_drewN) | (with_reducible apply below_drew1) | (with_reducible apply below_alloc)))); (case aS => exact Below.size (show Below w.heap.size w _ by (repeat (first | (with_reducible exact HBw.out) | (with_reducible apply below_drew) | (with_reducible apply pw_below_drewN) | (with_reducible apply below_drew1) | (with_reducible apply below_alloc))))); (case aL => simp; omega); intro v2 w6 ho hb6 hg6 hat; clear hg6 hat; have HO6 := Aside0.mk ho; have HBx := Aside0.mk hb6; have hc6 := (hb6.cell (World.block_lt_of_cell? w _ h0)).trans h0; have hz6 := (hb6.frozen (World.block_lt_of_cell? w _ h0)).trans z0; have hs6 : q < w6.heap.size := Nat.lt_of_lt_of_le hq hb6.size; clear ho hb6) | (refine Kd.R_append_rows_step (Kd.int .i64) (Rr := fun (x : Int) cs => cs = [Value.int .i64 x]) (w0 := w) w.heap.size (by rfl) (.tmp 25) (.tmp 31) 22 3 (.int .i64 0) 8 (by rfl) Tryd.underlying22 infoI64 (by rfl) (by decide) (by omega) v2 (l.take (idx x l) ++ [x]) (l.drop (idx x l)) (if c = idx x l then A else A.map (fun z => z.add (idx x l))) (l.length - idx x l) (c - idx x l) (fun _ => True) (fun _ => False) (by rfl) (by rfl) ?aO ?aR (fun _ _ h => h) (fun _ hk => hk.elim) (fun _ _ => trivial) ?aB ?aS ?aL ?_; (case aO => exact Kd.R_below HO6.out (by repeat (first | (with_reducible exact Below.refl _ _) | (with_reducible apply below_drew) | (with_reducible apply pw_below_drewN) | (with_reducible apply below_drew1)))); (case aR => exact reads_int (Kd.C_below HDr.out (by repeat (first | (with_reducible exact HBx.out) | (with_reducible apply below_drew) | (with_reducible apply pw_below_drewN) | (with_reducible apply below_drew1))))); (case aB => exact (by repeat (first | (with_reducible exact HBx.out) | (with_reducible apply below_drew) | (with_reducible apply pw_below_drewN) | (with_reducible apply below_drew1)))); (case aS => exact Below.size (show Below w.heap.size w _ from (by repeat (first | (with_reducible exact HBx.out) | (with_reducible apply below_drew) | (with_reducible apply pw_below_drewN) | (with_reducible apply below_drew1))))); (case aL => simp; omega); intro v3 w7 ho hb7 hg7 hat; clear hg7 hat; obtain ⟨A7, c7, rfl⟩ := Kd.R_slice ho; generalize (l.take (idx x l) ++ [x] ++ l.drop (idx x l)).length = n7 at *; have HO7 := Aside0.mk ho; have HBy := Aside0.mk hb7; have hc7 := (hb7.cell (World.block_lt_of_cell? w _ h0)).trans h0; have hz7 := (hb7.frozen (World.block_lt_of_cell? w _ h0)).trans z0; clear ho hb7))
  all_goals go_wp2
  all_goals
    go_ret
    exact ⟨rfl, w7, HBy.out, _, HO7.out, rfl⟩
end Go.Proofs.YtlghbhkpdlkhjaaDoor.PIS
