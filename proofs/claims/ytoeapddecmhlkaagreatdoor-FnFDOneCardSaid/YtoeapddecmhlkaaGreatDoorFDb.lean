/-
  Contracts of NewMax1RowFDs and AddStrictKey at an empty key. Condition: small sets.
-/
import Derived.Test.YtoeapddecmhlkaaGreatDoorFDa
namespace Go.Proofs.YtoeapddecmhlkaaGreatDoor.FD
open Go.RowKit Go.Proofs.YtoeapddecmhlkaaGreatDoorW.PrintWords Go.Proofs.YtoeapddecmhlkaaGreatDoorW.PrintLast Go.Proofs.YtoeapddecmhlkaaGreatDoorW.PrintMore
set_option linter.unusedVariables false
set_option linter.unusedSimpArgs false
set_option maxRecDepth 100000
set_option maxHeartbeats 400000

section
variable {P : Program} {ops : Array Oper} {o : Oper} {a : Act} {Q : Exit → Act → World → Prop} {W : World}
/-- append of one element onto nil. -/
theorem append_nil_run (t e : TypeId) (ty : TypeId) (z : Value) (n b : Nat) (ht : P.underlying t = some (.slice e)) (hinfo : (P.info? e).map (fun i => (i.zero, i.size, i.bytes)) = some (some z, n, b)) (hb : b ≤ 281474976710656)
    (g c : Nat) (news : List Value) (hn : news.length = n) (hnews : ∀ j v, news[j]? = some v → W.cell? ⟨g, j, none⟩ = some v) :
    ∃ (c' : Nat) (zs : Array Value), (Builtin.append_ #[t, t] ty #[.slice none 0 0, .slice (some ⟨g, 0, none⟩) 1 c]).run P W = .ok (.slice (some ⟨W.heap.size, 0, none⟩) 1 c') (W.drew.alloc (.cells (news.toArray ++ zs) e)) := by
  cases hi : P.info? e with
  | none => rw [hi] at hinfo; cases hinfo
  | some i =>
    rw [hi] at hinfo
    simp only [Option.map_some, Option.some.injEq, Prod.mk.injEq] at hinfo
    obtain ⟨h1, h2, h3⟩ := hinfo
    refine ⟨_, _, run_append_nil (P := P) W t ty e i z ht hi h1 ⟨g, 0, none⟩ 1 c news (by rw [hn, h2, Nat.one_mul]) (fun j v h => ?_) (by omega) (by omega) (by rw [h3, Nat.one_mul]; exact hb)⟩
    have := hnews j v h
    rwa [show (⟨g, 0, none⟩ : Addr).add j = ⟨g, j, none⟩ by unfold Addr.add; simp; try omega]
theorem append_nil_list {rest : List Oper} (hgd : o.guard = none) (s x : Operand) (t e : TypeId) (z : Value) (n b : Nat) (ho : o.op = .call { callee := .builtin .append, args := #[s, x], argTypes := #[t, t] })
    (ht : P.underlying t = some (.slice e)) (hinfo : (P.info? e).map (fun i => (i.zero, i.size, i.bytes)) = some (some z, n, b)) (hb : b ≤ 281474976710656)
    (g c B : Nat) (hB : B = W.heap.size) (news : List Value) (hn : news.length = n) (hnews : ∀ j v, news[j]? = some v → W.cell? ⟨g, j, none⟩ = some v) (hs : a.eval s = .slice none 0 0) (hx : a.eval x = .slice (some ⟨g, 0, none⟩) 1 c)
    (h : ∀ (c' : Nat) (zs : Array Value) (Z : World), Below B W Z → Z.heap[B]? = some (.cells (news.toArray ++ zs) e (0, 0)) → wpList P ops Q rest (a.put o.dst (.slice (some ⟨B, 0, none⟩) 1 c')) Z) : wpList P ops Q (o :: rest) a W := by
  subst hB
  refine wpList_plain hgd fun K hK => ?_
  obtain ⟨c', zs, hrun⟩ := append_nil_run (W := W) t e o.type z n b ht hinfo hb g c news hn hnews
  unfold Oper.wp
  simp [execOp, ho, resolve, invoke, builtin, hs, hx, hrun, Result.andThen]
  exact hK _ _ (h c' zs _ (below_alloc (below_drew (Below.refl _ _)) _) (heap_alloc_new W.drew _))
theorem append_nil_step {K : Act → World → Prop} (hw : Region.wanted o (yielded ops a.tmps) = true) (s x : Operand) (t e : TypeId) (z : Value) (n b : Nat) (ho : o.op = .call { callee := .builtin .append, args := #[s, x], argTypes := #[t, t] })
    (ht : P.underlying t = some (.slice e)) (hinfo : (P.info? e).map (fun i => (i.zero, i.size, i.bytes)) = some (some z, n, b)) (hb : b ≤ 281474976710656)
    (g c B : Nat) (hB : B = W.heap.size) (news : List Value) (hn : news.length = n) (hnews : ∀ j v, news[j]? = some v → W.cell? ⟨g, j, none⟩ = some v) (hs : a.eval s = .slice none 0 0) (hx : a.eval x = .slice (some ⟨g, 0, none⟩) 1 c)
    (h : ∀ (c' : Nat) (zs : Array Value) (Z : World), Below B W Z → Z.heap[B]? = some (.cells (news.toArray ++ zs) e (0, 0)) → K (a.put o.dst (.slice (some ⟨B, 0, none⟩) 1 c')) Z) : if Region.wanted o (yielded ops a.tmps) = true then Oper.wp P o a W K Q else K (a.put o.dst undef) W := by
  subst hB
  rw [if_pos hw]
  obtain ⟨c', zs, hrun⟩ := append_nil_run (W := W) t e o.type z n b ht hinfo hb g c news hn hnews
  unfold Oper.wp
  simp [execOp, ho, resolve, invoke, builtin, hs, hx, hrun, Result.andThen]
  exact h c' zs _ (below_alloc (below_drew (Below.refl _ _)) _) (heap_alloc_new W.drew _)
end
section
variable {P : Program} {md : Region.Mode} {ops : Array Oper} {Q : Exit → Act → World → Prop} {S : World → Prop}
/-- An operation taken first, its place by name. -/
theorem take_ {i : Nat} {oi : Oper} {N : Option Tmp} {v : Value} {fuel : Nat} {listed : Array Bool} {a : Act} {w : World} (hi : ops[i]? = some oi)
    (hs : Region.noSelect ops = true) (hf : Region.free md ops listed i = true) (hr : (Region.ready md ops listed).contains i = true)
    (hQ : ∀ c a w, Q (.panic c) (a.put oi.dst v) w → Q (.panic c) a w) (hN : oi.dst = N) (hy : YieldsIf P ops S oi v a) (hS : S w)
    (h : wpAnyH P md ops Q S fuel (listed.setIfInBounds i true) (a.put N v) w) : wpAnyH P md ops Q S (fuel + 1) listed a w := by
  subst hN
  exact wpAnyH_take hi hs hf hr hQ hy hS h
end
abbrev fo (a n : Nat) (keys : Value) : Obj := .cells #[.int .u64 (a : Int), .pointer none, .int .u64 (n : Int), .pointer none, .int .u64 (a : Int), .pointer none, .pointer none, keys] 57 (0, 0)
/-- What is told of at most one row. -/
def Dep (W : World) (f gk ck a n : Nat) : Prop := W.heap[f]? = some (fo a n (.slice (some ⟨gk, 0, none⟩) 1 ck)) ∧ ∃ zs : Array Value, W.heap[gk]? = some (.cells (#[.bool true, .int .u64 0, .pointer none, .int .u64 (a : Int), .pointer none] ++ zs) 60 (0, 0))
theorem Dep.below {W W' : World} {f gk ck a n : Nat} (h : Dep W f gk ck a n) (hb : Below W.heap.size W W') : Dep W' f gk ck a n := by
  obtain ⟨h1, zs, h2⟩ := h
  exact ⟨(hb.block _ (blk_lt h1)).trans h1, zs, (hb.block _ (blk_lt h2)).trans h2⟩
theorem cells8 {W : World} {g t : Nat} {a b c d e f h i : Value} (q : W.heap[g]? = some (.cells #[a, b, c, d, e, f, h, i] t (0, 0))) : W.cell? ⟨g, 0, none⟩ = some a ∧ W.cell? ⟨g, 1, none⟩ = some b ∧ W.cell? ⟨g, 2, none⟩ = some c ∧ W.cell? ⟨g, 3, none⟩ = some d ∧ W.cell? ⟨g, 4, none⟩ = some e ∧ W.cell? ⟨g, 5, none⟩ = some f ∧ W.cell? ⟨g, 6, none⟩ = some h ∧ W.cell? ⟨g, 7, none⟩ = some i := by
  refine ⟨?_, ?_, ?_, ?_, ?_, ?_, ?_, ?_⟩ <;> (rw [Lib.cell_of_heap q]; rfl)
theorem cells5 {W : World} {g t : Nat} {a b c d e : Value} {zs : Array Value} (q : W.heap[g]? = some (.cells (#[a, b, c, d, e] ++ zs) t (0, 0))) : W.cell? ⟨g, 0, none⟩ = some a ∧ W.cell? ⟨g, 1, none⟩ = some b ∧ W.cell? ⟨g, 2, none⟩ = some c ∧ W.cell? ⟨g, 3, none⟩ = some d ∧ W.cell? ⟨g, 4, none⟩ = some e := by
  refine ⟨?_, ?_, ?_, ?_, ?_⟩ <;> (rw [Lib.cell_of_heap q, Array.getElem?_append_left (by simp)]; rfl)
theorem cells2 {W : World} {g t : Nat} {a b : Value} (q : W.heap[g]? = some (.cells #[a, b] t (0, 0))) : W.cell? ⟨g, 0, none⟩ = some a ∧ W.cell? ⟨g, 1, none⟩ = some b := by
  refine ⟨?_, ?_⟩ <;> (rw [Lib.cell_of_heap q]; rfl)
theorem empty_ok (w : World) : Calls Tryz.prog 54 #[cv 0] w fun e w' => e = .returned (.bool true) ∧ Below w.heap.size w w' := by
  go_enter Tryz.func54, Tryz.ntmps54
  go_wp2
  go_ret
  exact ⟨rfl, by repeat (first | (with_reducible exact Below.refl _ _) | (with_reducible apply below_alloc))⟩
theorem simp_ok (f : Nat) (w : World) : Calls Tryz.prog 60 #[.pointer (some ⟨f, 0, none⟩), cv 0, .slice none 0 0] w fun e w' => e = .returned (cv 0) ∧ Below w.heap.size w w' := by
  have hB := below_alloc (below_alloc (Below.refl w.heap.size w) (.cells #[.int .u64 0, .pointer none] 49)) (.cells #[.int .u64 0, .pointer none] 49)
  have H := Aside0.mk (empty_ok ((w.alloc (.cells #[.int .u64 0, .pointer none] 49)).alloc (.cells #[.int .u64 0, .pointer none] 49)))
  have F := Aside0.mk (And.intro (alloc_old (heap_alloc_new w (.cells #[.int .u64 0, .pointer none] 49)) (.cells #[.int .u64 0, .pointer none] 49)) (alloc_at (w := w.alloc (.cells #[.int .u64 0, .pointer none] 49)) (p := w.heap.size + 1) (.cells #[.int .u64 0, .pointer none] 49) (by simp)))
  have HB := Aside0.mk hB
  clear hB
  go_enter Tryz.func60, Tryz.ntmps60
  go_wp2_with fail
  refine H.out.mono ?_
  rintro e w2 ⟨rfl, hb⟩
  have f1 := (hb.block _ (blk_lt F.out.1)).trans F.out.1
  have f2 := (hb.block _ (blk_lt F.out.2)).trans F.out.2
  have HB2 := Aside0.mk (below_step HB.out hb)
  obtain ⟨q0, q1⟩ := cells2 f1
  obtain ⟨q2, q3⟩ := cells2 f2
  have z2 := Lib.frozen_of_heap f2 0
  have z3 := Lib.frozen_of_heap f2 1
  clear H F HB hb
  go_wp2_with fail
  have hN := heap_set_at (heap_set_at f2 0 (.int .u64 0)) 1 (.pointer none)
  have hB := Aside0.mk ((HB2.out.setCell (p := ⟨w.heap.size + 1, 0, none⟩) (by simp) (.int .u64 0)).setCell (p := ⟨w.heap.size + 1, 1, none⟩) (by simp) (.pointer none))
  generalize (w2.setCell ⟨w.heap.size + 1, 0, none⟩ (.int .u64 0)).setCell ⟨w.heap.size + 1, 1, none⟩ (.pointer none) = V at *
  refine bodyPost_ret (results_cell_row rfl _ _ (w.heap.size + 1) 49 #[.int .u64 0, .pointer none] (0, 0) _ rfl hN Tryz.underlying49 rfl (by kernel_rfl)) rfl ?_
  exact ⟨rfl, hB.out⟩
theorem info60 : (Tryz.prog.info? 60).map (fun i => (i.zero, i.size, i.bytes)) = some (some (.agg #[.bool false, .int .u64 0, .pointer none, .int .u64 0, .pointer none]), 5, 40) := by kernel_rfl
/-- Contract of AddStrictKey of the empty set, where there is no key yet. -/
theorem addKey_ok (f a n : Nat) (w : World) (h : w.heap[f]? = some (fo a n (.slice none 0 0))) :
    Calls Tryz.prog 45 #[.pointer (some ⟨f, 0, none⟩), cv 0] w fun e w' => e = .returned (.tuple #[]) ∧ (∃ gk ck, Dep w' f gk ck a n ∧ w.heap.size ≤ gk) ∧ Still (fun k => k = f) w w' := by
  have hlt := blk_lt h
  have hB := below_alloc (Below.refl w.heap.size w) (.cells #[.int .u64 0, .pointer none] 49)
  have F := Aside0.mk (And.intro (heap_alloc_new w (.cells #[.int .u64 0, .pointer none] 49)) (And.intro ((hB.block _ hlt).trans h) hB))
  have H := Aside0.mk (simp_ok f (w.alloc (.cells #[.int .u64 0, .pointer none] 49)))
  clear h hB
  go_enter Tryz.func45, Tryz.ntmps45
  go_wp2_with fail
  refine H.out.mono ?_
  rintro e w2 ⟨rfl, hb⟩
  have f1 := (hb.block _ (blk_lt F.out.1)).trans F.out.1
  have f2 := (hb.block _ (blk_lt F.out.2.1)).trans F.out.2.1
  have HB2 := Aside0.mk (below_step F.out.2.2 hb)
  clear F H hb
  obtain ⟨q0, q1⟩ := cells2 f1
  have z0 := Lib.frozen_of_heap f1 0
  have z1 := Lib.frozen_of_heap f1 1
  go_wp2
  have hN := heap_set_at (heap_set_at f1 0 (.int .u64 0)) 1 (.pointer none)
  have hF := (Below.heap_setCell (w2.setCell ⟨w.heap.size, 0, none⟩ (.int .u64 0)) ⟨w.heap.size, 1, none⟩ (.pointer none) f (by show f ≠ w.heap.size; omega)).trans ((Below.heap_setCell w2 ⟨w.heap.size, 0, none⟩ (.int .u64 0) f (by show f ≠ w.heap.size; omega)).trans f2)
  have HB := Aside0.mk ((HB2.out.setCell (p := ⟨w.heap.size, 0, none⟩) (by simp) (.int .u64 0)).setCell (p := ⟨w.heap.size, 1, none⟩) (by simp) (.pointer none))
  clear f1 f2 q0 q1 z0 z1 HB2
  generalize (w2.setCell ⟨w.heap.size, 0, none⟩ (.int .u64 0)).setCell ⟨w.heap.size, 1, none⟩ (.pointer none) = V at *
  have hN : V.heap[w.heap.size]? = some (.cells #[.int .u64 0, .pointer none] 49 (0, 0)) := hN
  obtain ⟨q0, q1⟩ := cells2 hN
  obtain ⟨r0, r1, r2, r3, r4, r5, r6, r7⟩ := cells8 hF
  refine wp_region_noPanic ?_
  refine wp_region_held_drew (S := fun W => Below V.heap.size V W) (by kernel_rfl) ?_ (fun hHeld => ?_)
  · exact below_drew (Below.refl _ _)
  refine take_ (oi := ?oi1) (i := 0) (N := some 11) (v := ?v1) ?hi1 (by kernel_rfl) (by kernel_rfl) (by kernel_rfl) ?hQ1 ?hN1 (Or.inl ⟨?hw1, ?hy1⟩) hHeld ?rest1
  case hi1 => simp only [List.getElem?_toArray, List.getElem?_cons_zero, List.getElem?_cons_succ]; rfl
  case hQ1 => exact fun _ _ _ h => h
  case hN1 => rfl
  case hw1 => rfl
  case hy1 => intro W hSw; have z0 := pw_cell_below (show Below _ _ W from hSw) q0; have z1 := pw_cell_below (show Below _ _ W from hSw) q1; have z2 := pw_cell_below (show Below _ _ W from hSw) r0; have z3 := pw_cell_below (show Below _ _ W from hSw) r1; go_simp; (try with_reducible rfl)
  simp only [Act.put, List.setIfInBounds_toArray, List.set_cons_zero, List.set_cons_succ]
  refine take_ (oi := ?oi2) (i := 1) (N := some 12) (v := ?v2) ?hi2 (by kernel_rfl) (by kernel_rfl) (by kernel_rfl) ?hQ2 ?hN2 (Or.inl ⟨?hw2, ?hy2⟩) hHeld ?rest2
  case hi2 => simp only [List.getElem?_toArray, List.getElem?_cons_zero, List.getElem?_cons_succ]; rfl
  case hQ2 => exact fun _ _ _ h => h
  case hN2 => rfl
  case hw2 => rfl
  case hy2 => intro W hSw; have z0 := pw_cell_below (show Below _ _ W from hSw) q0; have z1 := pw_cell_below (show Below _ _ W from hSw) q1; have z2 := pw_cell_below (show Below _ _ W from hSw) r0; have z3 := pw_cell_below (show Below _ _ W from hSw) r1; go_simp; (try with_reducible rfl)
  simp only [Act.put, List.setIfInBounds_toArray, List.set_cons_zero, List.set_cons_succ]
  refine take_ (oi := ?oi3) (i := 2) (N := some 13) (v := ?v3) ?hi3 (by kernel_rfl) (by kernel_rfl) (by kernel_rfl) ?hQ3 ?hN3 (Or.inl ⟨?hw3, ?hy3⟩) hHeld ?rest3
  case hi3 => simp only [List.getElem?_toArray, List.getElem?_cons_zero, List.getElem?_cons_succ]; rfl
  case hQ3 => exact fun _ _ _ h => h
  case hN3 => rfl
  case hw3 => rfl
  case hy3 => intro W hSw; have z0 := pw_cell_below (show Below _ _ W from hSw) q0; have z1 := pw_cell_below (show Below _ _ W from hSw) q1; have z2 := pw_cell_below (show Below _ _ W from hSw) r0; have z3 := pw_cell_below (show Below _ _ W from hSw) r1; go_simp; (try with_reducible rfl)
  simp only [Act.put, List.setIfInBounds_toArray, List.set_cons_zero, List.set_cons_succ]
  refine take_ (oi := ?oi4) (i := 3) (N := some 14) (v := ?v4) ?hi4 (by kernel_rfl) (by kernel_rfl) (by kernel_rfl) ?hQ4 ?hN4 (Or.inl ⟨?hw4, ?hy4⟩) hHeld ?rest4
  case hi4 => simp only [List.getElem?_toArray, List.getElem?_cons_zero, List.getElem?_cons_succ]; rfl
  case hQ4 => exact fun _ _ _ h => h
  case hN4 => rfl
  case hw4 => rfl
  case hy4 => intro W hSw; have z0 := pw_cell_below (show Below _ _ W from hSw) q0; have z1 := pw_cell_below (show Below _ _ W from hSw) q1; have z2 := pw_cell_below (show Below _ _ W from hSw) r0; have z3 := pw_cell_below (show Below _ _ W from hSw) r1; go_simp; (try with_reducible rfl)
  simp only [Act.put, List.setIfInBounds_toArray, List.set_cons_zero, List.set_cons_succ]
  refine take_ (oi := ?oi5) (i := 4) (N := some 15) (v := ?v5) ?hi5 (by kernel_rfl) (by kernel_rfl) (by kernel_rfl) ?hQ5 ?hN5 (Or.inl ⟨?hw5, ?hy5⟩) hHeld ?rest5
  case hi5 => simp only [List.getElem?_toArray, List.getElem?_cons_zero, List.getElem?_cons_succ]; rfl
  case hQ5 => exact fun _ _ _ h => h
  case hN5 => rfl
  case hw5 => rfl
  case hy5 => intro W hSw; have z0 := pw_cell_below (show Below _ _ W from hSw) q0; have z1 := pw_cell_below (show Below _ _ W from hSw) q1; have z2 := pw_cell_below (show Below _ _ W from hSw) r0; have z3 := pw_cell_below (show Below _ _ W from hSw) r1; go_simp; (try with_reducible rfl)
  simp only [Act.put, List.setIfInBounds_toArray, List.set_cons_zero, List.set_cons_succ]
  refine take_ (oi := ?oi6) (i := 5) (N := some 16) (v := ?v6) ?hi6 (by kernel_rfl) (by kernel_rfl) (by kernel_rfl) ?hQ6 ?hN6 (Or.inl ⟨?hw6, ?hy6⟩) hHeld ?rest6
  case hi6 => simp only [List.getElem?_toArray, List.getElem?_cons_zero, List.getElem?_cons_succ]; rfl
  case hQ6 => exact fun _ _ _ h => h
  case hN6 => rfl
  case hw6 => rfl
  case hy6 => intro W hSw; have z0 := pw_cell_below (show Below _ _ W from hSw) q0; have z1 := pw_cell_below (show Below _ _ W from hSw) q1; have z2 := pw_cell_below (show Below _ _ W from hSw) r0; have z3 := pw_cell_below (show Below _ _ W from hSw) r1; go_simp; (try with_reducible rfl)
  simp only [Act.put, List.setIfInBounds_toArray, List.set_cons_zero, List.set_cons_succ]
  refine wpAnyH_ready (rs := [6]) (by kernel_rfl) (by simp) ?_
  refine AllReadyH.cons (o := ?oi7) ?hi7 (fun K hK => ?step7) AllReadyH.nil
  case hi7 => simp only [List.getElem?_toArray, List.getElem?_cons_zero, List.getElem?_cons_succ]; rfl
  go_simp
  refine hK.out _ _ (by repeat (first | (with_reducible exact hHeld) | (with_reducible assumption) | (with_reducible exact Below.refl _ _) | (with_reducible apply below_alloc) | (with_reducible apply below_drew) | (with_reducible refine below_set ?_ (by first | exact Nat.le_refl _ | simp)))) (fun hHeld => ?_)
  clear hK K
  (try simp only [Act.put, List.setIfInBounds_toArray, List.set_cons_zero, List.set_cons_succ])
  refine wpAnyH_ready (rs := [7]) (by kernel_rfl) (by simp) ?_
  refine AllReadyH.cons (o := ?oi8) ?hi8 (fun K hK => ?step8) AllReadyH.nil
  case hi8 => simp only [List.getElem?_toArray, List.getElem?_cons_zero, List.getElem?_cons_succ]; rfl
  go_simp
  refine hK.out _ _ (by repeat (first | (with_reducible exact hHeld) | (with_reducible assumption) | (with_reducible exact Below.refl _ _) | (with_reducible apply below_alloc) | (with_reducible apply below_drew) | (with_reducible refine below_set ?_ (by first | exact Nat.le_refl _ | simp)))) (fun hHeld => ?_)
  clear hK K
  refine wpAnyH_done (by kernel_rfl) ?_ _
  refine NoPanic.normal ?_
  have hM := heap_alloc_new V (.cells #[.bool true, .int .u64 0, .pointer none, .int .u64 (a : Int), .pointer none] 60)
  have hF2 := (hHeld.block _ (blk_lt hF)).trans hF
  have HB3 := Aside0.mk (below_step HB.out hHeld)
  have hne : f ≠ V.heap.size := Nat.ne_of_lt (blk_lt hF)
  clear q0 q1 r0 r1 r2 r3 r4 r5 r6 r7 hF hN HB hHeld
  generalize V.alloc (.cells #[.bool true, .int .u64 0, .pointer none, .int .u64 (a : Int), .pointer none] 60) = V2 at *
  generalize V.heap.size = m at *
  obtain ⟨m0, m1, m2, m3, m4⟩ := cells5 (zs := #[]) hM
  obtain ⟨r0, r1, r2, r3, r4, r5, r6, r7⟩ := cells8 hF2
  go_wp2_with fail
  go_loopw [22] (fun t22 wr => t22 = .int .i64 0 ∧ wr.heap[m]? = some (.cells #[.bool true, .int .u64 0, .pointer none, .int .u64 (a : Int), .pointer none] 60 (0, 0)) ∧ wr.heap[f]? = some (fo a n (.slice none 0 0)) ∧ Aside0 (Below w.heap.size w wr)) (fun _ _ => 0)
  case atStart => exact ⟨rfl, hM, hF2, by first | exact HB3 | exact ⟨below_drew HB3.out⟩⟩
  case round =>
    clear hM hF2 m0 m1 m2 m3 m4 r0 r1 r2 r3 r4 r5 r6 r7 HB3
    obtain ⟨rfl, hM, hF2, HB3⟩ := hrel
    obtain ⟨m0, m1, m2, m3, m4⟩ := cells5 (zs := #[]) hM
    obtain ⟨r0, r1, r2, r3, r4, r5, r6, r7⟩ := cells8 hF2
    have ltm := blk_lt hM
    have ltf := blk_lt hF2
    go_wp2
    refine wp_region_noPanic ?_
    refine wp_region_held_drew (S := fun _ => True) (by kernel_rfl) ?_ (fun hHeld => ?_)
    · exact trivial
    refine take_ (oi := ?oi9) (i := 0) (N := some 39) (v := ?v9) ?hi9 (by kernel_rfl) (by kernel_rfl) (by kernel_rfl) ?hQ9 ?hN9 (Or.inl ⟨?hw9, ?hy9⟩) hHeld ?rest9
    case hi9 => simp only [List.getElem?_toArray, List.getElem?_cons_zero, List.getElem?_cons_succ]; rfl
    case hQ9 => exact fun _ _ _ h => h
    case hN9 => rfl
    case hw9 => rfl
    case hy9 => intro W hSw; go_simp; (try with_reducible rfl)
    simp only [Act.put, List.setIfInBounds_toArray, List.set_cons_zero, List.set_cons_succ]
    refine take_ (oi := ?oi10) (i := 1) (N := some 40) (v := ?v10) ?hi10 (by kernel_rfl) (by kernel_rfl) (by kernel_rfl) ?hQ10 ?hN10 (Or.inl ⟨?hw10, ?hy10⟩) hHeld ?rest10
    case hi10 => simp only [List.getElem?_toArray, List.getElem?_cons_zero, List.getElem?_cons_succ]; rfl
    case hQ10 => exact fun _ _ _ h => h
    case hN10 => rfl
    case hw10 => rfl
    case hy10 => intro W hSw; go_simp; (try with_reducible rfl)
    simp only [Act.put, List.setIfInBounds_toArray, List.set_cons_zero, List.set_cons_succ]
    refine take_ (oi := ?oi11) (i := 2) (N := some 41) (v := ?v11) ?hi11 (by kernel_rfl) (by kernel_rfl) (by kernel_rfl) ?hQ11 ?hN11 (Or.inl ⟨?hw11, ?hy11⟩) hHeld ?rest11
    case hi11 => simp only [List.getElem?_toArray, List.getElem?_cons_zero, List.getElem?_cons_succ]; rfl
    case hQ11 => exact fun _ _ _ h => h
    case hN11 => rfl
    case hw11 => rfl
    case hy11 => intro W hSw; go_simp; (try with_reducible rfl)
    simp only [Act.put, List.setIfInBounds_toArray, List.set_cons_zero, List.set_cons_succ]
    refine take_ (oi := ?oi12) (i := 3) (N := some 42) (v := ?v12) ?hi12 (by kernel_rfl) (by kernel_rfl) (by kernel_rfl) ?hQ12 ?hN12 (Or.inl ⟨?hw12, ?hy12⟩) hHeld ?rest12
    case hi12 => simp only [List.getElem?_toArray, List.getElem?_cons_zero, List.getElem?_cons_succ]; rfl
    case hQ12 => exact fun _ _ _ h => h
    case hN12 => rfl
    case hw12 => rfl
    case hy12 => intro W hSw; go_simp; (try with_reducible rfl)
    simp only [Act.put, List.setIfInBounds_toArray, List.set_cons_zero, List.set_cons_succ]
    refine wpAnyH_ready (rs := [4, 5]) (by kernel_rfl) (by simp) ?_
    refine AllReadyH.cons (o := ?oi13) ?hi13 (fun K hK => ?step13) ?more13
    case hi13 => simp only [List.getElem?_toArray, List.getElem?_cons_zero, List.getElem?_cons_succ]; rfl
    case step13 =>
      go_simp
      refine hK.out _ _ trivial (fun hHeld => ?_)
      clear hK K hHeld
      have hHeld := trivial
      (try simp only [Act.put, List.setIfInBounds_toArray, List.set_cons_zero, List.set_cons_succ])
      refine wpAnyH_ready (rs := [5]) (by kernel_rfl) (by simp) ?_
      refine AllReadyH.cons (o := ?oi14) ?hi14 (fun K hK => ?step14) AllReadyH.nil
      case hi14 => simp only [List.getElem?_toArray, List.getElem?_cons_zero, List.getElem?_cons_succ]; rfl
      go_simp
      refine hK.out _ _ trivial (fun hHeld => ?_)
      clear hK K hHeld
      have hHeld := trivial
      (try simp only [Act.put, List.setIfInBounds_toArray, List.set_cons_zero, List.set_cons_succ])
      refine wpAnyH_ready (rs := [6]) (by kernel_rfl) (by simp) ?_
      refine AllReadyH.cons (o := ?oi15) ?hi15 (fun K hK => ?step15) AllReadyH.nil
      case hi15 => simp only [List.getElem?_toArray, List.getElem?_cons_zero, List.getElem?_cons_succ]; rfl
      go_simp
      refine hK.out _ _ trivial (fun hHeld => ?_)
      clear hK K hHeld
      have hHeld := trivial
      (try simp only [Act.put, List.setIfInBounds_toArray, List.set_cons_zero, List.set_cons_succ])
      refine wpAnyH_ready (rs := [7]) (by kernel_rfl) (by simp) ?_
      refine AllReadyH.cons (o := ?oi16) ?hi16 (fun K hK => ?step16) AllReadyH.nil
      case hi16 => simp only [List.getElem?_toArray, List.getElem?_cons_zero, List.getElem?_cons_succ]; rfl
      refine append_nil_step (by kernel_rfl) (.tmp 43) (.tmp 45) 55 60 _ 5 40 rfl Tryz.underlying55 info60 (by decide) wr.heap.size 1 (wr.heap.size + 1) (by simp) [.bool true, .int .u64 0, .pointer none, .int .u64 (a : Int), .pointer none] rfl ?news rfl rfl ?_
      case news =>
        intro j v hj
        show (wr.alloc (.cells #[.bool true, .int .u64 0, .pointer none, .int .u64 (a : Int), .pointer none] 60)).cell? ⟨wr.heap.size, j, none⟩ = some v
        rw [Lib.cell_of_heap (heap_alloc_new wr _)]
        simpa using hj
      intro c' zs Z hz hn
      have hFZ : Z.heap[f]? = some (fo a n (.slice none 0 0)) := (hz.block f (by omega)).trans (alloc_old hF2 (.cells #[.bool true, .int .u64 0, .pointer none, .int .u64 (a : Int), .pointer none] 60))
      have HBZ := Aside0.mk (show Below w.heap.size w Z from below_step HB3.out ((below_drew (below_alloc (Below.refl wr.heap.size wr) (.cells #[.bool true, .int .u64 0, .pointer none, .int .u64 (a : Int), .pointer none] 60))).trans (hz.mono (Nat.le_succ wr.heap.size))))
      have rz := (cells8 hFZ).2.2.2.2.2.2.2
      have zz := Lib.frozen_of_heap hFZ 7
      have hwr : w.heap.size ≤ wr.heap.size := HB3.out.size
      have hfB : f < wr.heap.size + 1 := by omega
      have hwB : w.heap.size ≤ wr.heap.size + 1 := by omega
      clear m0 m1 m2 m3 m4 r0 r1 r2 r3 r4 r5 r6 r7 hM hF2 HB3 hz
      generalize wr.heap.size + 1 = B at *
      refine hK.out _ _ trivial (fun hHeld => ?_)
      clear hK K hHeld
      have hHeld := trivial
      simp only [Act.put, List.setIfInBounds_toArray, List.set_cons_zero, List.set_cons_succ]
      refine take_ (oi := ?oi17) (i := 8) (N := some 47) (v := ?v17) ?hi17 (by kernel_rfl) (by kernel_rfl) (by kernel_rfl) ?hQ17 ?hN17 (Or.inl ⟨?hw17, ?hy17⟩) hHeld ?rest17
      case hi17 => simp only [List.getElem?_toArray, List.getElem?_cons_zero, List.getElem?_cons_succ]; rfl
      case hQ17 => exact fun _ _ _ h => h
      case hN17 => rfl
      case hw17 => rfl
      case hy17 => intro W hSw; go_simp; (try with_reducible rfl)
      simp only [Act.put, List.setIfInBounds_toArray, List.set_cons_zero, List.set_cons_succ]
      refine take_ (oi := ?oi18) (i := 9) (N := some 48) (v := ?v18) ?hi18 (by kernel_rfl) (by kernel_rfl) (by kernel_rfl) ?hQ18 ?hN18 (Or.inl ⟨?hw18, ?hy18⟩) hHeld ?rest18
      case hi18 => simp only [List.getElem?_toArray, List.getElem?_cons_zero, List.getElem?_cons_succ]; rfl
      case hQ18 => exact fun _ _ _ h => h
      case hN18 => rfl
      case hw18 => rfl
      case hy18 => intro W hSw; go_simp; (try with_reducible rfl)
      simp only [Act.put, List.setIfInBounds_toArray, List.set_cons_zero, List.set_cons_succ]
      refine wpAnyH_ready (rs := [10]) (by kernel_rfl) (by simp) ?_
      refine AllReadyH.cons (o := ?oi19) ?hi19 (fun K hK => ?step19) AllReadyH.nil
      case hi19 => simp only [List.getElem?_toArray, List.getElem?_cons_zero, List.getElem?_cons_succ]; rfl
      go_simp
      refine hK.out _ _ trivial (fun hHeld => ?_)
      clear hK K hHeld
      have hHeld := trivial
      refine wpAnyH_done (by kernel_rfl) ?_ _
      refine NoPanic.normal ?_
      have HS := Aside0.mk ((Still.of_below (S := fun k => k = f) HBZ.out).setCell (p := ⟨f, 7, none⟩) (.inl rfl) (.slice (some ⟨B, 0, none⟩) 1 c'))
      have hD := heap_set_at hFZ 7 (.slice (some ⟨B, 0, none⟩) 1 c')
      have hNK := (Below.heap_setCell Z ⟨f, 7, none⟩ (.slice (some ⟨B, 0, none⟩) 1 c') B (by show B ≠ f; omega)).trans hn
      clear hFZ rz zz HBZ hn
      generalize Z.setCell ⟨f, 7, none⟩ (.slice (some ⟨B, 0, none⟩) 1 c') = Z2 at *
      have hD : Z2.heap[f]? = some (fo a n (.slice (some ⟨B, 0, none⟩) 1 c')) := hD
      obtain ⟨r0, r1, r2, r3, r4, r5, r6, r7⟩ := cells8 hD
      go_wp2
      go_end0
      exact ⟨rfl, ⟨B, c', ⟨hD, zs, hNK⟩, by omega⟩, HS.out⟩
    refine AllReadyH.cons (o := ?oi20) ?hi20 (fun K hK => ?step20) AllReadyH.nil
    case hi20 => simp only [List.getElem?_toArray, List.getElem?_cons_zero, List.getElem?_cons_succ]; rfl
    go_simp
    refine hK.out _ _ trivial (fun hHeld => ?_)
    clear hK K hHeld
    have hHeld := trivial
    (try simp only [Act.put, List.setIfInBounds_toArray, List.set_cons_zero, List.set_cons_succ])
    refine wpAnyH_ready (rs := [4, 6]) (by kernel_rfl) (by simp) ?_
    refine AllReadyH.cons (o := ?oi21) ?hi21 (fun K hK => ?step21) ?more21
    case hi21 => simp only [List.getElem?_toArray, List.getElem?_cons_zero, List.getElem?_cons_succ]; rfl
    case step21 =>
      go_simp
      refine hK.out _ _ trivial (fun hHeld => ?_)
      clear hK K hHeld
      have hHeld := trivial
      (try simp only [Act.put, List.setIfInBounds_toArray, List.set_cons_zero, List.set_cons_succ])
      refine wpAnyH_ready (rs := [6]) (by kernel_rfl) (by simp) ?_
      refine AllReadyH.cons (o := ?oi22) ?hi22 (fun K hK => ?step22) AllReadyH.nil
      case hi22 => simp only [List.getElem?_toArray, List.getElem?_cons_zero, List.getElem?_cons_succ]; rfl
      go_simp
      refine hK.out _ _ trivial (fun hHeld => ?_)
      clear hK K hHeld
      have hHeld := trivial
      (try simp only [Act.put, List.setIfInBounds_toArray, List.set_cons_zero, List.set_cons_succ])
      refine wpAnyH_ready (rs := [7]) (by kernel_rfl) (by simp) ?_
      refine AllReadyH.cons (o := ?oi23) ?hi23 (fun K hK => ?step23) AllReadyH.nil
      case hi23 => simp only [List.getElem?_toArray, List.getElem?_cons_zero, List.getElem?_cons_succ]; rfl
      refine append_nil_step (by kernel_rfl) (.tmp 43) (.tmp 45) 55 60 _ 5 40 rfl Tryz.underlying55 info60 (by decide) wr.heap.size 1 (wr.heap.size + 1) (by simp) [.bool true, .int .u64 0, .pointer none, .int .u64 (a : Int), .pointer none] rfl ?news rfl rfl ?_
      case news =>
        intro j v hj
        show (wr.alloc (.cells #[.bool true, .int .u64 0, .pointer none, .int .u64 (a : Int), .pointer none] 60)).cell? ⟨wr.heap.size, j, none⟩ = some v
        rw [Lib.cell_of_heap (heap_alloc_new wr _)]
        simpa using hj
      intro c' zs Z hz hn
      have hFZ : Z.heap[f]? = some (fo a n (.slice none 0 0)) := (hz.block f (by omega)).trans (alloc_old hF2 (.cells #[.bool true, .int .u64 0, .pointer none, .int .u64 (a : Int), .pointer none] 60))
      have HBZ := Aside0.mk (show Below w.heap.size w Z from below_step HB3.out ((below_drew (below_alloc (Below.refl wr.heap.size wr) (.cells #[.bool true, .int .u64 0, .pointer none, .int .u64 (a : Int), .pointer none] 60))).trans (hz.mono (Nat.le_succ wr.heap.size))))
      have rz := (cells8 hFZ).2.2.2.2.2.2.2
      have zz := Lib.frozen_of_heap hFZ 7
      have hwr : w.heap.size ≤ wr.heap.size := HB3.out.size
      have hfB : f < wr.heap.size + 1 := by omega
      have hwB : w.heap.size ≤ wr.heap.size + 1 := by omega
      clear m0 m1 m2 m3 m4 r0 r1 r2 r3 r4 r5 r6 r7 hM hF2 HB3 hz
      generalize wr.heap.size + 1 = B at *
      refine hK.out _ _ trivial (fun hHeld => ?_)
      clear hK K hHeld
      have hHeld := trivial
      simp only [Act.put, List.setIfInBounds_toArray, List.set_cons_zero, List.set_cons_succ]
      refine take_ (oi := ?oi24) (i := 8) (N := some 47) (v := ?v24) ?hi24 (by kernel_rfl) (by kernel_rfl) (by kernel_rfl) ?hQ24 ?hN24 (Or.inl ⟨?hw24, ?hy24⟩) hHeld ?rest24
      case hi24 => simp only [List.getElem?_toArray, List.getElem?_cons_zero, List.getElem?_cons_succ]; rfl
      case hQ24 => exact fun _ _ _ h => h
      case hN24 => rfl
      case hw24 => rfl
      case hy24 => intro W hSw; go_simp; (try with_reducible rfl)
      simp only [Act.put, List.setIfInBounds_toArray, List.set_cons_zero, List.set_cons_succ]
      refine take_ (oi := ?oi25) (i := 9) (N := some 48) (v := ?v25) ?hi25 (by kernel_rfl) (by kernel_rfl) (by kernel_rfl) ?hQ25 ?hN25 (Or.inl ⟨?hw25, ?hy25⟩) hHeld ?rest25
      case hi25 => simp only [List.getElem?_toArray, List.getElem?_cons_zero, List.getElem?_cons_succ]; rfl
      case hQ25 => exact fun _ _ _ h => h
      case hN25 => rfl
      case hw25 => rfl
      case hy25 => intro W hSw; go_simp; (try with_reducible rfl)
      simp only [Act.put, List.setIfInBounds_toArray, List.set_cons_zero, List.set_cons_succ]
      refine wpAnyH_ready (rs := [10]) (by kernel_rfl) (by simp) ?_
      refine AllReadyH.cons (o := ?oi26) ?hi26 (fun K hK => ?step26) AllReadyH.nil
      case hi26 => simp only [List.getElem?_toArray, List.getElem?_cons_zero, List.getElem?_cons_succ]; rfl
      go_simp
      refine hK.out _ _ trivial (fun hHeld => ?_)
      clear hK K hHeld
      have hHeld := trivial
      refine wpAnyH_done (by kernel_rfl) ?_ _
      refine NoPanic.normal ?_
      have HS := Aside0.mk ((Still.of_below (S := fun k => k = f) HBZ.out).setCell (p := ⟨f, 7, none⟩) (.inl rfl) (.slice (some ⟨B, 0, none⟩) 1 c'))
      have hD := heap_set_at hFZ 7 (.slice (some ⟨B, 0, none⟩) 1 c')
      have hNK := (Below.heap_setCell Z ⟨f, 7, none⟩ (.slice (some ⟨B, 0, none⟩) 1 c') B (by show B ≠ f; omega)).trans hn
      clear hFZ rz zz HBZ hn
      generalize Z.setCell ⟨f, 7, none⟩ (.slice (some ⟨B, 0, none⟩) 1 c') = Z2 at *
      have hD : Z2.heap[f]? = some (fo a n (.slice (some ⟨B, 0, none⟩) 1 c')) := hD
      obtain ⟨r0, r1, r2, r3, r4, r5, r6, r7⟩ := cells8 hD
      go_wp2
      go_end0
      exact ⟨rfl, ⟨B, c', ⟨hD, zs, hNK⟩, by omega⟩, HS.out⟩
    refine AllReadyH.cons (o := ?oi27) ?hi27 (fun K hK => ?step27) AllReadyH.nil
    case hi27 => simp only [List.getElem?_toArray, List.getElem?_cons_zero, List.getElem?_cons_succ]; rfl
    go_simp
    refine hK.out _ _ trivial (fun hHeld => ?_)
    clear hK K hHeld
    have hHeld := trivial
    (try simp only [Act.put, List.setIfInBounds_toArray, List.set_cons_zero, List.set_cons_succ])
    refine wpAnyH_ready (rs := [4]) (by kernel_rfl) (by simp) ?_
    refine AllReadyH.cons (o := ?oi28) ?hi28 (fun K hK => ?step28) AllReadyH.nil
    case hi28 => simp only [List.getElem?_toArray, List.getElem?_cons_zero, List.getElem?_cons_succ]; rfl
    go_simp
    refine hK.out _ _ trivial (fun hHeld => ?_)
    clear hK K hHeld
    have hHeld := trivial
    (try simp only [Act.put, List.setIfInBounds_toArray, List.set_cons_zero, List.set_cons_succ])
    refine wpAnyH_ready (rs := [7]) (by kernel_rfl) (by simp) ?_
    refine AllReadyH.cons (o := ?oi29) ?hi29 (fun K hK => ?step29) AllReadyH.nil
    case hi29 => simp only [List.getElem?_toArray, List.getElem?_cons_zero, List.getElem?_cons_succ]; rfl
    refine append_nil_step (by kernel_rfl) (.tmp 43) (.tmp 45) 55 60 _ 5 40 rfl Tryz.underlying55 info60 (by decide) wr.heap.size 1 (wr.heap.size + 1) (by simp) [.bool true, .int .u64 0, .pointer none, .int .u64 (a : Int), .pointer none] rfl ?news rfl rfl ?_
    case news =>
      intro j v hj
      show (wr.alloc (.cells #[.bool true, .int .u64 0, .pointer none, .int .u64 (a : Int), .pointer none] 60)).cell? ⟨wr.heap.size, j, none⟩ = some v
      rw [Lib.cell_of_heap (heap_alloc_new wr _)]
      simpa using hj
    intro c' zs Z hz hn
    have hFZ : Z.heap[f]? = some (fo a n (.slice none 0 0)) := (hz.block f (by omega)).trans (alloc_old hF2 (.cells #[.bool true, .int .u64 0, .pointer none, .int .u64 (a : Int), .pointer none] 60))
    have HBZ := Aside0.mk (show Below w.heap.size w Z from below_step HB3.out ((below_drew (below_alloc (Below.refl wr.heap.size wr) (.cells #[.bool true, .int .u64 0, .pointer none, .int .u64 (a : Int), .pointer none] 60))).trans (hz.mono (Nat.le_succ wr.heap.size))))
    have rz := (cells8 hFZ).2.2.2.2.2.2.2
    have zz := Lib.frozen_of_heap hFZ 7
    have hwr : w.heap.size ≤ wr.heap.size := HB3.out.size
    have hfB : f < wr.heap.size + 1 := by omega
    have hwB : w.heap.size ≤ wr.heap.size + 1 := by omega
    clear m0 m1 m2 m3 m4 r0 r1 r2 r3 r4 r5 r6 r7 hM hF2 HB3 hz
    generalize wr.heap.size + 1 = B at *
    refine hK.out _ _ trivial (fun hHeld => ?_)
    clear hK K hHeld
    have hHeld := trivial
    simp only [Act.put, List.setIfInBounds_toArray, List.set_cons_zero, List.set_cons_succ]
    refine take_ (oi := ?oi30) (i := 8) (N := some 47) (v := ?v30) ?hi30 (by kernel_rfl) (by kernel_rfl) (by kernel_rfl) ?hQ30 ?hN30 (Or.inl ⟨?hw30, ?hy30⟩) hHeld ?rest30
    case hi30 => simp only [List.getElem?_toArray, List.getElem?_cons_zero, List.getElem?_cons_succ]; rfl
    case hQ30 => exact fun _ _ _ h => h
    case hN30 => rfl
    case hw30 => rfl
    case hy30 => intro W hSw; go_simp; (try with_reducible rfl)
    simp only [Act.put, List.setIfInBounds_toArray, List.set_cons_zero, List.set_cons_succ]
    refine take_ (oi := ?oi31) (i := 9) (N := some 48) (v := ?v31) ?hi31 (by kernel_rfl) (by kernel_rfl) (by kernel_rfl) ?hQ31 ?hN31 (Or.inl ⟨?hw31, ?hy31⟩) hHeld ?rest31
    case hi31 => simp only [List.getElem?_toArray, List.getElem?_cons_zero, List.getElem?_cons_succ]; rfl
    case hQ31 => exact fun _ _ _ h => h
    case hN31 => rfl
    case hw31 => rfl
    case hy31 => intro W hSw; go_simp; (try with_reducible rfl)
    simp only [Act.put, List.setIfInBounds_toArray, List.set_cons_zero, List.set_cons_succ]
    refine wpAnyH_ready (rs := [10]) (by kernel_rfl) (by simp) ?_
    refine AllReadyH.cons (o := ?oi32) ?hi32 (fun K hK => ?step32) AllReadyH.nil
    case hi32 => simp only [List.getElem?_toArray, List.getElem?_cons_zero, List.getElem?_cons_succ]; rfl
    go_simp
    refine hK.out _ _ trivial (fun hHeld => ?_)
    clear hK K hHeld
    have hHeld := trivial
    refine wpAnyH_done (by kernel_rfl) ?_ _
    refine NoPanic.normal ?_
    have HS := Aside0.mk ((Still.of_below (S := fun k => k = f) HBZ.out).setCell (p := ⟨f, 7, none⟩) (.inl rfl) (.slice (some ⟨B, 0, none⟩) 1 c'))
    have hD := heap_set_at hFZ 7 (.slice (some ⟨B, 0, none⟩) 1 c')
    have hNK := (Below.heap_setCell Z ⟨f, 7, none⟩ (.slice (some ⟨B, 0, none⟩) 1 c') B (by show B ≠ f; omega)).trans hn
    clear hFZ rz zz HBZ hn
    generalize Z.setCell ⟨f, 7, none⟩ (.slice (some ⟨B, 0, none⟩) 1 c') = Z2 at *
    have hD : Z2.heap[f]? = some (fo a n (.slice (some ⟨B, 0, none⟩) 1 c')) := hD
    obtain ⟨r0, r1, r2, r3, r4, r5, r6, r7⟩ := cells8 hD
    go_wp2
    go_end0
    exact ⟨rfl, ⟨B, c', ⟨hD, zs, hNK⟩, by omega⟩, HS.out⟩
end Go.Proofs.YtoeapddecmhlkaaGreatDoor.FD
