/-
  Contracts of FDStep.do at a step of at most one row, and of seenDeps. Condition: columns from 1 to 64; math/bits.deBruijn64tab as laid.
-/
import Derived.Test.YtoeapddecmhlkaaGreatDoorFDc
namespace Go.Proofs.YtoeapddecmhlkaaGreatDoor.FD
open Go.RowKit Go.Proofs.YtoeapddecmhlkaaGreatDoorW.PrintWords Go.Proofs.YtoeapddecmhlkaaGreatDoorW.PrintLast Go.Proofs.YtoeapddecmhlkaaGreatDoorW.PrintMore
set_option linter.unusedVariables false
set_option linter.unusedSimpArgs false
set_option maxRecDepth 100000
set_option maxHeartbeats 400000

theorem info41 : (Tryz.prog.info? 41).map (fun i => (i.zero, i.size, i.bytes)) = some (some (.pointer none), 1, 8) := by kernel_rfl
/-- A row of columns, as it lies. -/
def Lies (W : World) (A : Option Addr) (l : List Int) : Prop := Kd.C (Kd.int .i64) W A l.length l ∧ (∀ x ∈ l, 1 ≤ x ∧ x ≤ 64) ∧ l.length ≤ 1000
theorem Lies.below {W W' : World} {A : Option Addr} {l : List Int} (h : Lies W A l) (hb : Below W.heap.size W W') : Lies W' A l := ⟨Kd.C_below h.1 hb, h.2⟩
abbrev stp (A1 A2 : Option Addr) (n1 c1 n2 c2 : Nat) : Value := .agg #[.int .i64 7, .slice A1 n1 c1, .slice A2 n2 c2, .slice none 0 0, .slice none 0 0, .slice none 0 0, .slice none 0 0, .bool false]

/-- The nine cells of what is seen. -/
def Row9 (W : World) (b : Nat) : Prop := ∃ a0 a1 a2 a3 a4 a5 a6 a7 a8 : Value, W.heap[b]? = some (.cells #[a0, a1, a2, a3, a4, a5, a6, a7, a8] 30 (0, 0))
theorem Row9.below {W W' : World} {b : Nat} (h : Row9 W b) (hb : Below W.heap.size W W') : Row9 W' b := by
  obtain ⟨a0, a1, a2, a3, a4, a5, a6, a7, a8, h⟩ := h
  exact ⟨_, _, _, _, _, _, _, _, _, (hb.block _ (blk_lt h)).trans h⟩
theorem cells9 {W : World} {g t : Nat} {a0 a1 a2 a3 a4 a5 a6 a7 a8 : Value} (q : W.heap[g]? = some (.cells #[a0, a1, a2, a3, a4, a5, a6, a7, a8] t (0, 0))) : W.cell? ⟨g, 0, none⟩ = some a0 ∧ W.cell? ⟨g, 1, none⟩ = some a1 ∧ W.cell? ⟨g, 2, none⟩ = some a2 ∧ W.cell? ⟨g, 3, none⟩ = some a3 ∧ W.cell? ⟨g, 4, none⟩ = some a4 ∧ W.cell? ⟨g, 5, none⟩ = some a5 ∧ W.cell? ⟨g, 6, none⟩ = some a6 ∧ W.cell? ⟨g, 7, none⟩ = some a7 ∧ W.cell? ⟨g, 8, none⟩ = some a8 := by
  refine ⟨?_, ?_, ?_, ?_, ?_, ?_, ?_, ?_, ?_⟩ <;> (rw [Lib.cell_of_heap q]; rfl)
theorem sets9 {V W : World} {b t : Nat} {a0 a1 a2 a3 a4 a5 a6 a7 a8 : Value} (h : Still (fun k => k = b) V W) (hr : W.heap[b]? = some (.cells #[a0, a1, a2, a3, a4, a5, a6, a7, a8] t (0, 0))) (v0 v1 v2 v3 v4 v5 v6 v7 v8 : Value) :
    Still (fun k => k = b) V (((((((((W.setCell ⟨b, 0, none⟩ v0).setCell ⟨b, 1, none⟩ v1).setCell ⟨b, 2, none⟩ v2).setCell ⟨b, 3, none⟩ v3).setCell ⟨b, 4, none⟩ v4).setCell ⟨b, 5, none⟩ v5).setCell ⟨b, 6, none⟩ v6).setCell ⟨b, 7, none⟩ v7).setCell ⟨b, 8, none⟩ v8) ∧ (((((((((W.setCell ⟨b, 0, none⟩ v0).setCell ⟨b, 1, none⟩ v1).setCell ⟨b, 2, none⟩ v2).setCell ⟨b, 3, none⟩ v3).setCell ⟨b, 4, none⟩ v4).setCell ⟨b, 5, none⟩ v5).setCell ⟨b, 6, none⟩ v6).setCell ⟨b, 7, none⟩ v7).setCell ⟨b, 8, none⟩ v8).heap[b]? = some (.cells #[v0, v1, v2, v3, v4, v5, v6, v7, v8] t (0, 0)) := by
  have h0 := h.setCell (p := ⟨b, 0, none⟩) (.inl rfl) v0
  have h1 := h0.setCell (p := ⟨b, 1, none⟩) (.inl rfl) v1
  have h2 := h1.setCell (p := ⟨b, 2, none⟩) (.inl rfl) v2
  have h3 := h2.setCell (p := ⟨b, 3, none⟩) (.inl rfl) v3
  have h4 := h3.setCell (p := ⟨b, 4, none⟩) (.inl rfl) v4
  have h5 := h4.setCell (p := ⟨b, 5, none⟩) (.inl rfl) v5
  have h6 := h5.setCell (p := ⟨b, 6, none⟩) (.inl rfl) v6
  have h7 := h6.setCell (p := ⟨b, 7, none⟩) (.inl rfl) v7
  have h8 := h7.setCell (p := ⟨b, 8, none⟩) (.inl rfl) v8
  refine ⟨h8, ?_⟩
  simp [World.setCell, Array.getElem?_modify, hr]
theorem sets9_ne {W : World} {b k : Nat} (h : k ≠ b) (v0 v1 v2 v3 v4 v5 v6 v7 v8 : Value) : (((((((((W.setCell ⟨b, 0, none⟩ v0).setCell ⟨b, 1, none⟩ v1).setCell ⟨b, 2, none⟩ v2).setCell ⟨b, 3, none⟩ v3).setCell ⟨b, 4, none⟩ v4).setCell ⟨b, 5, none⟩ v5).setCell ⟨b, 6, none⟩ v6).setCell ⟨b, 7, none⟩ v7).setCell ⟨b, 8, none⟩ v8).heap[k]? = W.heap[k]? := by
  simp only [heap_setCell_other _ _ _ _ (show k ≠ (⟨b, _, none⟩ : Addr).block from h)]
/-- Contract of do: a stack of one. -/
theorem do_ok (A1 A2 : Option Addr) (c1 c2 : Nat) (l1 l2 : List Int) (w : World) (h1 : Lies w A1 l1) (h2 : Lies w A2 l2) :
    Calls Tryz.prog 14 #[stp A1 A2 l1.length c1 l2.length c2, .slice none 0 0] w fun e w' => ∃ p cp f gk ck, e = .returned (.slice (some ⟨p, 0, none⟩) 1 cp) ∧ (∃ zs : Array Value, w'.heap[p]? = some (.cells (#[.pointer (some ⟨f, 0, none⟩)] ++ zs) 41 (0, 0))) ∧ Dep w' f gk ck (mk l1) (mk l2) ∧ Below w.heap.size w w' := by
  have hB := below_alloc (Below.refl w.heap.size w) (.cells #[.int .i64 7, .slice A1 l1.length c1, .slice A2 l2.length c2, .slice none 0 0, .slice none 0 0, .slice none 0 0, .slice none 0 0, .bool false] 27)
  have hN := heap_alloc_new w (.cells #[.int .i64 7, .slice A1 l1.length c1, .slice A2 l2.length c2, .slice none 0 0, .slice none 0 0, .slice none 0 0, .slice none 0 0, .bool false] 27)
  have H1 := Aside0.mk (fun W (h : Below w.heap.size w W) => columns_ok A1 c1 l1 W (h1.below h).1 h1.2.1 h1.2.2)
  have H2 := Aside0.mk (fun W (h : Below w.heap.size w W) => columns_ok A2 c2 l2 W (h2.below h).1 h2.2.1 h2.2.2)
  have H3 := Aside0.mk (fun W => max1_ok (mk l1) (mk l2) W)
  generalize mk l1 = m1 at *
  generalize mk l2 = m2 at *
  generalize l1.length = n1 at *
  generalize l2.length = n2 at *
  clear h1 h2
  go_enter Tryz.func14, Tryz.ntmps14
  go_wp2
  generalize w.alloc (.cells #[.int .i64 7, .slice A1 n1 c1, .slice A2 n2 c2, .slice none 0 0, .slice none 0 0, .slice none 0 0, .slice none 0 0, .bool false] 27) = V at *
  have hN : V.heap[w.heap.size]? = some (.cells #[.int .i64 7, .slice A1 n1 c1, .slice A2 n2 c2, .slice none 0 0, .slice none 0 0, .slice none 0 0, .slice none 0 0, .bool false] 27 (0, 0)) := hN
  obtain ⟨r0, r1, r2, r3, r4, r5, r6, r7⟩ := cells8 hN
  have HB := Aside0.mk hB
  clear hB hN
  refine wp_region_noPanic ?_
  refine wp_region_held_drew (S := fun W => Below V.heap.size V W) (by kernel_rfl) ?_ (fun hHeld => ?_)
  · exact below_drew (Below.refl _ _)
  refine take_ (oi := ?oi1) (i := 0) (N := some 30) (v := ?v1) ?hi1 (by kernel_rfl) (by kernel_rfl) (by kernel_rfl) ?hQ1 ?hN1 (Or.inl ⟨?hw1, ?hy1⟩) hHeld ?rest1
  case hi1 => simp only [List.getElem?_toArray, List.getElem?_cons_zero, List.getElem?_cons_succ]; rfl
  case hQ1 => exact fun _ _ _ h => h
  case hN1 => rfl
  case hw1 => rfl
  case hy1 => intro W hSw; have z0 := pw_cell_below (show Below _ _ W from hSw) r0; have z1 := pw_cell_below (show Below _ _ W from hSw) r1; have z2 := pw_cell_below (show Below _ _ W from hSw) r2; go_simp; (try with_reducible rfl)
  simp only [Act.put, List.setIfInBounds_toArray, List.set_cons_zero, List.set_cons_succ]
  refine take_ (oi := ?oi2) (i := 1) (N := some 31) (v := ?v2) ?hi2 (by kernel_rfl) (by kernel_rfl) (by kernel_rfl) ?hQ2 ?hN2 (Or.inl ⟨?hw2, ?hy2⟩) hHeld ?rest2
  case hi2 => simp only [List.getElem?_toArray, List.getElem?_cons_zero, List.getElem?_cons_succ]; rfl
  case hQ2 => exact fun _ _ _ h => h
  case hN2 => rfl
  case hw2 => rfl
  case hy2 => intro W hSw; have z0 := pw_cell_below (show Below _ _ W from hSw) r0; have z1 := pw_cell_below (show Below _ _ W from hSw) r1; have z2 := pw_cell_below (show Below _ _ W from hSw) r2; go_simp; (try with_reducible rfl)
  simp only [Act.put, List.setIfInBounds_toArray, List.set_cons_zero, List.set_cons_succ]
  refine take_ (oi := ?oi3) (i := 2) (N := some 32) (v := ?v3) ?hi3 (by kernel_rfl) (by kernel_rfl) (by kernel_rfl) ?hQ3 ?hN3 (Or.inl ⟨?hw3, ?hy3⟩) hHeld ?rest3
  case hi3 => simp only [List.getElem?_toArray, List.getElem?_cons_zero, List.getElem?_cons_succ]; rfl
  case hQ3 => exact fun _ _ _ h => h
  case hN3 => rfl
  case hw3 => rfl
  case hy3 => intro W hSw; have z0 := pw_cell_below (show Below _ _ W from hSw) r0; have z1 := pw_cell_below (show Below _ _ W from hSw) r1; have z2 := pw_cell_below (show Below _ _ W from hSw) r2; go_simp; (try with_reducible rfl)
  simp only [Act.put, List.setIfInBounds_toArray, List.set_cons_zero, List.set_cons_succ]
  refine take_ (oi := ?oi4) (i := 4) (N := some 34) (v := ?v4) ?hi4 (by kernel_rfl) (by kernel_rfl) (by kernel_rfl) ?hQ4 ?hN4 (Or.inl ⟨?hw4, ?hy4⟩) hHeld ?rest4
  case hi4 => simp only [List.getElem?_toArray, List.getElem?_cons_zero, List.getElem?_cons_succ]; rfl
  case hQ4 => exact fun _ _ _ h => h
  case hN4 => rfl
  case hw4 => rfl
  case hy4 => intro W hSw; have z0 := pw_cell_below (show Below _ _ W from hSw) r0; have z1 := pw_cell_below (show Below _ _ W from hSw) r1; have z2 := pw_cell_below (show Below _ _ W from hSw) r2; go_simp; (try with_reducible rfl)
  simp only [Act.put, List.setIfInBounds_toArray, List.set_cons_zero, List.set_cons_succ]
  refine take_ (oi := ?oi5) (i := 5) (N := some 35) (v := ?v5) ?hi5 (by kernel_rfl) (by kernel_rfl) (by kernel_rfl) ?hQ5 ?hN5 (Or.inl ⟨?hw5, ?hy5⟩) hHeld ?rest5
  case hi5 => simp only [List.getElem?_toArray, List.getElem?_cons_zero, List.getElem?_cons_succ]; rfl
  case hQ5 => exact fun _ _ _ h => h
  case hN5 => rfl
  case hw5 => rfl
  case hy5 => intro W hSw; have z0 := pw_cell_below (show Below _ _ W from hSw) r0; have z1 := pw_cell_below (show Below _ _ W from hSw) r1; have z2 := pw_cell_below (show Below _ _ W from hSw) r2; go_simp; (try with_reducible rfl)
  simp only [Act.put, List.setIfInBounds_toArray, List.set_cons_zero, List.set_cons_succ]
  refine wpAnyH_ready (rs := [3]) (by kernel_rfl) (by simp) ?_
  refine AllReadyH.cons (o := ?oi6) ?hi6 (fun K hK => ?step6) AllReadyH.nil
  case hi6 => simp only [List.getElem?_toArray, List.getElem?_cons_zero, List.getElem?_cons_succ]; rfl
  refine goes_ (N := some 33) Tryz.func13 (by kernel_rfl) rfl #[.slice A1 n1 c1] (by rfl) rfl rfl (by (try simp only [List.map_toArray, List.map_cons, List.map_nil]); rfl) ?_
  refine (H1.out _ (below_step HB.out hHeld)).mono ?_
  rintro e v3 ⟨rfl, hb⟩
  refine ⟨_, rfl, ?_⟩
  refine hK.out _ _ (below_step hHeld hb) (fun hHeld => ?_)
  clear hK K hb
  simp only [Act.put, List.setIfInBounds_toArray, List.set_cons_zero, List.set_cons_succ]
  refine wpAnyH_ready (rs := [6]) (by kernel_rfl) (by simp) ?_
  refine AllReadyH.cons (o := ?oi7) ?hi7 (fun K hK => ?step7) AllReadyH.nil
  case hi7 => simp only [List.getElem?_toArray, List.getElem?_cons_zero, List.getElem?_cons_succ]; rfl
  refine goes_ (N := some 36) Tryz.func13 (by kernel_rfl) rfl #[.slice A2 n2 c2] (by rfl) rfl rfl (by (try simp only [List.map_toArray, List.map_cons, List.map_nil]); rfl) ?_
  refine (H2.out _ (below_step HB.out hHeld)).mono ?_
  rintro e v6 ⟨rfl, hb⟩
  refine ⟨_, rfl, ?_⟩
  refine hK.out _ _ (below_step hHeld hb) (fun hHeld => ?_)
  clear hK K hb
  simp only [Act.put, List.setIfInBounds_toArray, List.set_cons_zero, List.set_cons_succ]
  refine wpAnyH_ready (rs := [7]) (by kernel_rfl) (by simp) ?_
  refine AllReadyH.cons (o := ?oi8) ?hi8 (fun K hK => ?step8) AllReadyH.nil
  case hi8 => simp only [List.getElem?_toArray, List.getElem?_cons_zero, List.getElem?_cons_succ]; rfl
  refine goes_ (N := some 37) Tryz.func20 (by kernel_rfl) rfl #[cv m1, cv m2] (by rfl) rfl rfl (by (try simp only [List.map_toArray, List.map_cons, List.map_nil]); rfl) ?_
  refine (H3.out _).mono ?_
  rintro e v7 ⟨f, gk, ck, rfl, hD, hb⟩
  have HD := Aside0.mk hD
  have hV7 := Aside0.mk (below_step hHeld hb)
  clear hD
  refine ⟨_, rfl, ?_⟩
  refine hK.out _ _ (below_step hHeld hb) (fun hHeld => ?_)
  clear hK K hb
  simp only [Act.put, List.setIfInBounds_toArray, List.set_cons_zero, List.set_cons_succ]
  refine wpAnyH_ready (rs := [8]) (by kernel_rfl) (by simp) ?_
  refine AllReadyH.cons (o := ?oi9) ?hi9 (fun K hK => ?step9) AllReadyH.nil
  case hi9 => simp only [List.getElem?_toArray, List.getElem?_cons_zero, List.getElem?_cons_succ]; rfl
  go_simp
  refine hK.out _ _ (by repeat (first | (with_reducible exact hHeld) | (with_reducible assumption) | (with_reducible exact Below.refl _ _) | (with_reducible apply below_alloc) | (with_reducible apply below_drew) | (with_reducible refine below_set ?_ (by first | exact Nat.le_refl _ | simp)))) (fun hHeld => ?_)
  clear hK K
  (try simp only [Act.put, List.setIfInBounds_toArray, List.set_cons_zero, List.set_cons_succ])
  refine wpAnyH_ready (rs := [9]) (by kernel_rfl) (by simp) ?_
  refine AllReadyH.cons (o := ?oi10) ?hi10 (fun K hK => ?step10) AllReadyH.nil
  case hi10 => simp only [List.getElem?_toArray, List.getElem?_cons_zero, List.getElem?_cons_succ]; rfl
  refine append_nil_step (by kernel_rfl) (.tmp 30) (.tmp 38) 51 41 _ 1 8 rfl Tryz.underlying51 info41 (by decide) v7.heap.size 1 (v7.heap.size + 1) (by simp) [.pointer (some ⟨f, 0, none⟩)] rfl ?news rfl rfl ?_
  case news =>
    intro j v hj
    show (v7.alloc (.cells #[.pointer (some ⟨f, 0, none⟩)] 41)).cell? ⟨v7.heap.size, j, none⟩ = some v
    rw [Lib.cell_of_heap (heap_alloc_new v7 _)]
    simpa using hj
  intro c' zs Z hz hn
  have hDZ := Aside0.mk (HD.out.below ((below_alloc (Below.refl v7.heap.size v7) (.cells #[.pointer (some ⟨f, 0, none⟩)] 41)).trans (hz.mono (Nat.le_succ v7.heap.size))))
  refine hK.out _ _ (below_step hV7.out ((below_alloc (Below.refl v7.heap.size v7) (.cells #[.pointer (some ⟨f, 0, none⟩)] 41)).trans (hz.mono (Nat.le_succ v7.heap.size)))) (fun hHeld => ?_)
  clear hK K hz
  generalize v7.heap.size + 1 = B at *
  simp only [Act.put, List.setIfInBounds_toArray, List.set_cons_zero, List.set_cons_succ]
  refine take_ (oi := ?oi11) (i := 10) (N := some 4) (v := ?v11) ?hi11 (by kernel_rfl) (by kernel_rfl) (by kernel_rfl) ?hQ11 ?hN11 (Or.inl ⟨?hw11, ?hy11⟩) hHeld ?rest11
  case hi11 => simp only [List.getElem?_toArray, List.getElem?_cons_zero, List.getElem?_cons_succ]; rfl
  case hQ11 => exact fun _ _ _ h => h
  case hN11 => rfl
  case hw11 => rfl
  case hy11 => intro W hSw; have z0 := pw_cell_below (show Below _ _ W from hSw) r0; have z1 := pw_cell_below (show Below _ _ W from hSw) r1; have z2 := pw_cell_below (show Below _ _ W from hSw) r2; go_simp; (try with_reducible rfl)
  simp only [Act.put, List.setIfInBounds_toArray, List.set_cons_zero, List.set_cons_succ]
  refine wpAnyH_done (by kernel_rfl) ?_ _
  refine NoPanic.normal ?_
  have HBz := Aside0.mk (below_step HB.out hHeld)
  clear hHeld HB
  go_wp2
  go_ret
  exact ⟨_, _, _, _, _, rfl, ⟨_, hn⟩, hDZ.out, HBz.out⟩
/-- What is seen of it. -/
theorem seen_ok (p cp f gk ck a n : Nat) (zs : Array Value) (ha : a < big) (hn : n < big) (w : World) (hg : Glob w) (hp : w.heap[p]? = some (.cells (#[.pointer (some ⟨f, 0, none⟩)] ++ zs) 41 (0, 0))) (hD : Dep w f gk ck a n) :
    Calls Tryz.prog 15 #[.slice (some ⟨p, 0, none⟩) 1 cp] w fun e w' => ∃ A n1 k1 A2 n2 k2 A3 n3 k3 A5 n5 k5 A6 n6 k6, e = .returned (.agg #[.slice A n1 k1, .slice A2 n2 k2, .slice A3 n3 k3, .slice none 0 0, .slice A5 n5 k5, .slice A6 n6 k6, .bool true, .bool false, .bool true]) ∧ n1 = (colsOf a).length ∧ (∃ base, w.heap.size ≤ base ∧ Kd.R (Kd.int .i64) 3 w' base (fun _ => True) (.slice A n1 k1) (colsOf a)) ∧ Below w.heap.size w w' := by
  have c0 : w.cell? ⟨p, 0, none⟩ = some (.pointer (some ⟨f, 0, none⟩)) := by rw [Lib.cell_of_heap hp, Array.getElem?_append_left (by simp)]; rfl
  have ltp := blk_lt hp
  have HG := Aside0.mk (fun W (h : Below w.heap.size w W) => hg.later h)
  have HD := Aside0.mk (fun W (h : Below w.heap.size w W) => hD.below h)
  have HA := Aside0.mk ha
  have HN := Aside0.mk hn
  have HB := Aside0.mk (below_alloc (Below.refl w.heap.size w) (.cells #[.slice none 0 0, .slice none 0 0, .slice none 0 0, .slice none 0 0, .slice none 0 0, .slice none 0 0, .bool false, .bool false, .bool false] 30))
  have hR := heap_alloc_new w (.cells #[.slice none 0 0, .slice none 0 0, .slice none 0 0, .slice none 0 0, .slice none 0 0, .slice none 0 0, .bool false, .bool false, .bool false] 30)
  have HR := Aside0.mk hR
  clear hg hD hp ha hn hR
  go_enter Tryz.func15, Tryz.ntmps15
  go_wp2_with fail
  refine (strict_ok f gk ck a n _ (HD.out _ HB.out)).mono ?_
  rintro e w2 ⟨rfl, hb⟩
  have HB2 := Aside0.mk (below_step HB.out hb)
  have HR2 := Aside0.mk ((hb.block _ (blk_lt HR.out)).trans HR.out)
  clear hb HB HR c0
  go_wp2_with fail
  have HB3 := Aside0.mk (below_step HB2.out (below_alloc (Below.refl w2.heap.size w2) (.cells #[.int .u64 0, .pointer none] 49)))
  have ltw2 : w.heap.size < w2.heap.size := blk_lt HR2.out
  have HR3 := Aside0.mk (alloc_old HR2.out (.cells #[.int .u64 0, .pointer none] 49))
  have HT3 := Aside0.mk (heap_alloc_new w2 (.cells #[.int .u64 0, .pointer none] 49))
  clear HR2 HB2
  refine (lax_ok f gk ck a n _ (HD.out _ HB3.out)).mono ?_
  rintro e w3 ⟨rfl, hb⟩
  have HB4 := Aside0.mk (below_step HB3.out hb)
  have HR4 := Aside0.mk ((hb.block _ (blk_lt HR3.out)).trans HR3.out)
  have HT4 := Aside0.mk ((hb.block _ (blk_lt HT3.out)).trans HT3.out)
  clear hb HB3 HR3 HT3
  go_wp2
  have H24 := Aside0.mk ltw2
  have H36 := Aside0.mk (show w.heap.size < w3.heap.size from blk_lt HR4.out)
  have HB5 := Aside0.mk (below_step HB4.out (below_alloc (Below.refl w3.heap.size w3) (.cells #[.int .u64 0, .pointer none] 49)))
  have hR5 := alloc_old HR4.out (.cells #[.int .u64 0, .pointer none] 49)
  have hT5 := alloc_old HT4.out (.cells #[.int .u64 0, .pointer none] 49)
  have hL5 := heap_alloc_new w3 (.cells #[.int .u64 0, .pointer none] 49)
  clear HB4 HR4 HT4
  generalize w3.alloc (.cells #[.int .u64 0, .pointer none] 49) = V at *
  generalize w2.heap.size = t4 at *
  generalize w3.heap.size = t6 at *
  have ltR : w.heap.size < V.heap.size := blk_lt hR5
  have HX := Aside0.mk (fun W (h : Still (fun k => k = w.heap.size) V W) => HB5.out.trans (h.below (B := w.heap.size) (Nat.le_of_lt ltR) (fun k hk => Nat.le_of_eq (Eq.symm hk))))
  have net4 : t4 ≠ w.heap.size := by have := H24.out; omega
  have net6 : t6 ≠ w.heap.size := by have := H36.out; omega
  refine wp_region_noPanic ?_
  refine wp_region_held_drew (S := fun W => Still (fun k => k = w.heap.size) V W ∧ Row9 W w.heap.size) (by kernel_rfl) ?_ (fun hHeld => ?_)
  · exact ⟨Still.drew (Still.refl _ _), _, _, _, _, _, _, _, _, _, hR5⟩
  refine take_ (oi := ?oi12) (i := 0) (N := some 28) (v := ?v12) ?hi12 (by kernel_rfl) (by kernel_rfl) (by kernel_rfl) ?hQ12 ?hN12 (Or.inl ⟨?hw12, ?hy12⟩) hHeld ?rest12
  case hi12 => simp only [List.getElem?_toArray, List.getElem?_cons_zero, List.getElem?_cons_succ]; rfl
  case hQ12 => exact fun _ _ _ h => h
  case hN12 => rfl
  case hw12 => rfl
  case hy12 => intro W hSw; obtain ⟨z0, z1⟩ := cells2 (((show Still _ V W from hSw.1).block _ (blk_lt hT5) net4).trans hT5); obtain ⟨z2, z3⟩ := cells2 (((show Still _ V W from hSw.1).block _ (blk_lt hL5) net6).trans hL5); go_simp; (try with_reducible rfl)
  simp only [Act.put, List.setIfInBounds_toArray, List.set_cons_zero, List.set_cons_succ]
  refine take_ (oi := ?oi13) (i := 3) (N := some 31) (v := ?v13) ?hi13 (by kernel_rfl) (by kernel_rfl) (by kernel_rfl) ?hQ13 ?hN13 (Or.inl ⟨?hw13, ?hy13⟩) hHeld ?rest13
  case hi13 => simp only [List.getElem?_toArray, List.getElem?_cons_zero, List.getElem?_cons_succ]; rfl
  case hQ13 => exact fun _ _ _ h => h
  case hN13 => rfl
  case hw13 => rfl
  case hy13 => intro W hSw; obtain ⟨z0, z1⟩ := cells2 (((show Still _ V W from hSw.1).block _ (blk_lt hT5) net4).trans hT5); obtain ⟨z2, z3⟩ := cells2 (((show Still _ V W from hSw.1).block _ (blk_lt hL5) net6).trans hL5); go_simp; (try with_reducible rfl)
  simp only [Act.put, List.setIfInBounds_toArray, List.set_cons_zero, List.set_cons_succ]
  refine take_ (oi := ?oi14) (i := 6) (N := some 34) (v := ?v14) ?hi14 (by kernel_rfl) (by kernel_rfl) (by kernel_rfl) ?hQ14 ?hN14 (Or.inl ⟨?hw14, ?hy14⟩) hHeld ?rest14
  case hi14 => simp only [List.getElem?_toArray, List.getElem?_cons_zero, List.getElem?_cons_succ]; rfl
  case hQ14 => exact fun _ _ _ h => h
  case hN14 => rfl
  case hw14 => rfl
  case hy14 => intro W hSw; obtain ⟨z0, z1⟩ := cells2 (((show Still _ V W from hSw.1).block _ (blk_lt hT5) net4).trans hT5); obtain ⟨z2, z3⟩ := cells2 (((show Still _ V W from hSw.1).block _ (blk_lt hL5) net6).trans hL5); go_simp; (try with_reducible rfl)
  simp only [Act.put, List.setIfInBounds_toArray, List.set_cons_zero, List.set_cons_succ]
  refine take_ (oi := ?oi15) (i := 9) (N := some 37) (v := ?v15) ?hi15 (by kernel_rfl) (by kernel_rfl) (by kernel_rfl) ?hQ15 ?hN15 (Or.inl ⟨?hw15, ?hy15⟩) hHeld ?rest15
  case hi15 => simp only [List.getElem?_toArray, List.getElem?_cons_zero, List.getElem?_cons_succ]; rfl
  case hQ15 => exact fun _ _ _ h => h
  case hN15 => rfl
  case hw15 => rfl
  case hy15 => intro W hSw; obtain ⟨z0, z1⟩ := cells2 (((show Still _ V W from hSw.1).block _ (blk_lt hT5) net4).trans hT5); obtain ⟨z2, z3⟩ := cells2 (((show Still _ V W from hSw.1).block _ (blk_lt hL5) net6).trans hL5); go_simp; (try with_reducible rfl)
  simp only [Act.put, List.setIfInBounds_toArray, List.set_cons_zero, List.set_cons_succ]
  refine take_ (oi := ?oi16) (i := 13) (N := some 41) (v := ?v16) ?hi16 (by kernel_rfl) (by kernel_rfl) (by kernel_rfl) ?hQ16 ?hN16 (Or.inl ⟨?hw16, ?hy16⟩) hHeld ?rest16
  case hi16 => simp only [List.getElem?_toArray, List.getElem?_cons_zero, List.getElem?_cons_succ]; rfl
  case hQ16 => exact fun _ _ _ h => h
  case hN16 => rfl
  case hw16 => rfl
  case hy16 => intro W hSw; obtain ⟨z0, z1⟩ := cells2 (((show Still _ V W from hSw.1).block _ (blk_lt hT5) net4).trans hT5); obtain ⟨z2, z3⟩ := cells2 (((show Still _ V W from hSw.1).block _ (blk_lt hL5) net6).trans hL5); go_simp; (try with_reducible rfl)
  simp only [Act.put, List.setIfInBounds_toArray, List.set_cons_zero, List.set_cons_succ]
  refine take_ (oi := ?oi17) (i := 15) (N := some 43) (v := ?v17) ?hi17 (by kernel_rfl) (by kernel_rfl) (by kernel_rfl) ?hQ17 ?hN17 (Or.inl ⟨?hw17, ?hy17⟩) hHeld ?rest17
  case hi17 => simp only [List.getElem?_toArray, List.getElem?_cons_zero, List.getElem?_cons_succ]; rfl
  case hQ17 => exact fun _ _ _ h => h
  case hN17 => rfl
  case hw17 => rfl
  case hy17 => intro W hSw; obtain ⟨z0, z1⟩ := cells2 (((show Still _ V W from hSw.1).block _ (blk_lt hT5) net4).trans hT5); obtain ⟨z2, z3⟩ := cells2 (((show Still _ V W from hSw.1).block _ (blk_lt hL5) net6).trans hL5); go_simp; (try with_reducible rfl)
  simp only [Act.put, List.setIfInBounds_toArray, List.set_cons_zero, List.set_cons_succ]
  refine take_ (oi := ?oi18) (i := 17) (N := some 45) (v := ?v18) ?hi18 (by kernel_rfl) (by kernel_rfl) (by kernel_rfl) ?hQ18 ?hN18 (Or.inl ⟨?hw18, ?hy18⟩) hHeld ?rest18
  case hi18 => simp only [List.getElem?_toArray, List.getElem?_cons_zero, List.getElem?_cons_succ]; rfl
  case hQ18 => exact fun _ _ _ h => h
  case hN18 => rfl
  case hw18 => rfl
  case hy18 => intro W hSw; obtain ⟨z0, z1⟩ := cells2 (((show Still _ V W from hSw.1).block _ (blk_lt hT5) net4).trans hT5); obtain ⟨z2, z3⟩ := cells2 (((show Still _ V W from hSw.1).block _ (blk_lt hL5) net6).trans hL5); go_simp; (try with_reducible rfl)
  simp only [Act.put, List.setIfInBounds_toArray, List.set_cons_zero, List.set_cons_succ]
  refine take_ (oi := ?oi19) (i := 18) (N := some 46) (v := ?v19) ?hi19 (by kernel_rfl) (by kernel_rfl) (by kernel_rfl) ?hQ19 ?hN19 (Or.inl ⟨?hw19, ?hy19⟩) hHeld ?rest19
  case hi19 => simp only [List.getElem?_toArray, List.getElem?_cons_zero, List.getElem?_cons_succ]; rfl
  case hQ19 => exact fun _ _ _ h => h
  case hN19 => rfl
  case hw19 => rfl
  case hy19 => intro W hSw; obtain ⟨z0, z1⟩ := cells2 (((show Still _ V W from hSw.1).block _ (blk_lt hT5) net4).trans hT5); obtain ⟨z2, z3⟩ := cells2 (((show Still _ V W from hSw.1).block _ (blk_lt hL5) net6).trans hL5); go_simp; (try with_reducible rfl)
  simp only [Act.put, List.setIfInBounds_toArray, List.set_cons_zero, List.set_cons_succ]
  refine take_ (oi := ?oi20) (i := 19) (N := some 47) (v := ?v20) ?hi20 (by kernel_rfl) (by kernel_rfl) (by kernel_rfl) ?hQ20 ?hN20 (Or.inl ⟨?hw20, ?hy20⟩) hHeld ?rest20
  case hi20 => simp only [List.getElem?_toArray, List.getElem?_cons_zero, List.getElem?_cons_succ]; rfl
  case hQ20 => exact fun _ _ _ h => h
  case hN20 => rfl
  case hw20 => rfl
  case hy20 => intro W hSw; obtain ⟨z0, z1⟩ := cells2 (((show Still _ V W from hSw.1).block _ (blk_lt hT5) net4).trans hT5); obtain ⟨z2, z3⟩ := cells2 (((show Still _ V W from hSw.1).block _ (blk_lt hL5) net6).trans hL5); go_simp; (try with_reducible rfl)
  simp only [Act.put, List.setIfInBounds_toArray, List.set_cons_zero, List.set_cons_succ]
  refine wpAnyH_ready (rs := [1]) (by kernel_rfl) (by simp) ?_
  refine AllReadyH.cons (o := ?oi21) ?hi21 (fun K hK => ?step21) AllReadyH.nil
  case hi21 => simp only [List.getElem?_toArray, List.getElem?_cons_zero, List.getElem?_cons_succ]; rfl
  refine goes_ (N := some 29) Tryz.func30 (by kernel_rfl) rfl #[.pointer (some ⟨f, 0, none⟩)] (by rfl) rfl rfl (by (try simp only [List.map_toArray, List.map_cons, List.map_nil]); rfl) ?_
  refine (all_ok f gk ck a n _ (HD.out _ (HX.out _ hHeld.1))).mono ?_
  rintro e v1 ⟨rfl, hb⟩
  refine ⟨_, rfl, ?_⟩
  refine hK.out _ _ (⟨hHeld.1.trans (Still.of_below hb), hHeld.2.below hb⟩) (fun hHeld => ?_)
  clear hK K hb
  simp only [Act.put, List.setIfInBounds_toArray, List.set_cons_zero, List.set_cons_succ]
  refine wpAnyH_ready (rs := [2]) (by kernel_rfl) (by simp) ?_
  refine AllReadyH.cons (o := ?oi22) ?hi22 (fun K hK => ?step22) AllReadyH.nil
  case hi22 => simp only [List.getElem?_toArray, List.getElem?_cons_zero, List.getElem?_cons_succ]; rfl
  refine goes_ (N := some 30) Tryz.func29 (by kernel_rfl) rfl #[cv a] (by rfl) rfl rfl (by (try simp only [List.map_toArray, List.map_cons, List.map_nil]); rfl) ?_
  refine (ids_ok a HA.out _ (HG.out _ (HX.out _ hHeld.1))).mono ?_
  rintro e v2 ⟨v, rfl, hR, hb⟩
  obtain ⟨A1, k1, rfl⟩ := Kd.R_slice hR
  have hv1 : w.heap.size < v1.heap.size := Nat.lt_of_lt_of_le ltR hHeld.1.size
  have HI := Aside0.mk hR
  have HBI := Aside0.mk (Below.refl v2.heap.size v2)
  clear hR
  refine ⟨_, rfl, ?_⟩
  refine hK.out _ _ (⟨hHeld.1.trans (Still.of_below hb), hHeld.2.below hb⟩) (fun hHeld => ?_)
  clear hK K hb
  simp only [Act.put, List.setIfInBounds_toArray, List.set_cons_zero, List.set_cons_succ]
  refine wpAnyH_ready (rs := [4]) (by kernel_rfl) (by simp) ?_
  refine AllReadyH.cons (o := ?oi23) ?hi23 (fun K hK => ?step23) AllReadyH.nil
  case hi23 => simp only [List.getElem?_toArray, List.getElem?_cons_zero, List.getElem?_cons_succ]; rfl
  refine goes_ (N := some 32) Tryz.func31 (by kernel_rfl) rfl #[.pointer (some ⟨f, 0, none⟩)] (by rfl) rfl rfl (by (try simp only [List.map_toArray, List.map_cons, List.map_nil]); rfl) ?_
  refine (notNull_ok f gk ck a n _ (HD.out _ (HX.out _ hHeld.1))).mono ?_
  rintro e v4 ⟨rfl, hb⟩
  have HBI := Aside0.mk (below_step HBI.out hb)
  refine ⟨_, rfl, ?_⟩
  refine hK.out _ _ (⟨hHeld.1.trans (Still.of_below hb), hHeld.2.below hb⟩) (fun hHeld => ?_)
  clear hK K hb
  simp only [Act.put, List.setIfInBounds_toArray, List.set_cons_zero, List.set_cons_succ]
  refine wpAnyH_ready (rs := [5]) (by kernel_rfl) (by simp) ?_
  refine AllReadyH.cons (o := ?oi24) ?hi24 (fun K hK => ?step24) AllReadyH.nil
  case hi24 => simp only [List.getElem?_toArray, List.getElem?_cons_zero, List.getElem?_cons_succ]; rfl
  refine goes_ (N := some 33) Tryz.func29 (by kernel_rfl) rfl #[cv n] (by rfl) rfl rfl (by (try simp only [List.map_toArray, List.map_cons, List.map_nil]); rfl) ?_
  refine (ids_ok n HN.out _ (HG.out _ (HX.out _ hHeld.1))).mono ?_
  rintro e v5 ⟨v, rfl, hR, hb⟩
  obtain ⟨A2, k2, rfl⟩ := Kd.R_slice hR
  have HBI := Aside0.mk (below_step HBI.out hb)
  clear hR
  refine ⟨_, rfl, ?_⟩
  refine hK.out _ _ (⟨hHeld.1.trans (Still.of_below hb), hHeld.2.below hb⟩) (fun hHeld => ?_)
  clear hK K hb
  simp only [Act.put, List.setIfInBounds_toArray, List.set_cons_zero, List.set_cons_succ]
  refine wpAnyH_ready (rs := [7]) (by kernel_rfl) (by simp) ?_
  refine AllReadyH.cons (o := ?oi25) ?hi25 (fun K hK => ?step25) AllReadyH.nil
  case hi25 => simp only [List.getElem?_toArray, List.getElem?_cons_zero, List.getElem?_cons_succ]; rfl
  refine goes_ (N := some 35) Tryz.func32 (by kernel_rfl) rfl #[.pointer (some ⟨f, 0, none⟩)] (by rfl) rfl rfl (by (try simp only [List.map_toArray, List.map_cons, List.map_nil]); rfl) ?_
  refine (consts_ok f gk ck a n _ (HD.out _ (HX.out _ hHeld.1))).mono ?_
  rintro e v7 ⟨rfl, hb⟩
  have HBI := Aside0.mk (below_step HBI.out hb)
  refine ⟨_, rfl, ?_⟩
  refine hK.out _ _ (⟨hHeld.1.trans (Still.of_below hb), hHeld.2.below hb⟩) (fun hHeld => ?_)
  clear hK K hb
  simp only [Act.put, List.setIfInBounds_toArray, List.set_cons_zero, List.set_cons_succ]
  refine wpAnyH_ready (rs := [8]) (by kernel_rfl) (by simp) ?_
  refine AllReadyH.cons (o := ?oi26) ?hi26 (fun K hK => ?step26) AllReadyH.nil
  case hi26 => simp only [List.getElem?_toArray, List.getElem?_cons_zero, List.getElem?_cons_succ]; rfl
  refine goes_ (N := some 36) Tryz.func29 (by kernel_rfl) rfl #[cv a] (by rfl) rfl rfl (by (try simp only [List.map_toArray, List.map_cons, List.map_nil]); rfl) ?_
  refine (ids_ok a HA.out _ (HG.out _ (HX.out _ hHeld.1))).mono ?_
  rintro e v8 ⟨v, rfl, hR, hb⟩
  obtain ⟨A3, k3, rfl⟩ := Kd.R_slice hR
  have HBI := Aside0.mk (below_step HBI.out hb)
  clear hR
  refine ⟨_, rfl, ?_⟩
  refine hK.out _ _ (⟨hHeld.1.trans (Still.of_below hb), hHeld.2.below hb⟩) (fun hHeld => ?_)
  clear hK K hb
  simp only [Act.put, List.setIfInBounds_toArray, List.set_cons_zero, List.set_cons_succ]
  refine wpAnyH_ready (rs := [10]) (by kernel_rfl) (by simp) ?_
  refine AllReadyH.cons (o := ?oi27) ?hi27 (fun K hK => ?step27) AllReadyH.nil
  case hi27 => simp only [List.getElem?_toArray, List.getElem?_cons_zero, List.getElem?_cons_succ]; rfl
  refine goes_ (N := some 38) Tryz.func34 (by kernel_rfl) rfl #[.pointer (some ⟨f, 0, none⟩)] (by rfl) rfl rfl (by (try simp only [List.map_toArray, List.map_cons, List.map_nil]); rfl) ?_
  refine (equiv_ok f gk ck a n _ (HD.out _ (HX.out _ hHeld.1))).mono ?_
  rintro e v10 ⟨rfl, hb⟩
  have HBI := Aside0.mk (below_step HBI.out hb)
  refine ⟨_, rfl, ?_⟩
  refine hK.out _ _ (⟨hHeld.1.trans (Still.of_below hb), hHeld.2.below hb⟩) (fun hHeld => ?_)
  clear hK K hb
  simp only [Act.put, List.setIfInBounds_toArray, List.set_cons_zero, List.set_cons_succ]
  refine wpAnyH_ready (rs := [11]) (by kernel_rfl) (by simp) ?_
  refine AllReadyH.cons (o := ?oi28) ?hi28 (fun K hK => ?step28) AllReadyH.nil
  case hi28 => simp only [List.getElem?_toArray, List.getElem?_cons_zero, List.getElem?_cons_succ]; rfl
  refine goes_ (N := some 39) Tryz.func35 (by kernel_rfl) rfl #[.pointer none] (by rfl) rfl rfl (by (try simp only [List.map_toArray, List.map_cons, List.map_nil]); rfl) ?_
  refine (sets_ok _).mono ?_
  rintro e v11 ⟨rfl, hb⟩
  have HBI := Aside0.mk (below_step HBI.out hb)
  refine ⟨_, rfl, ?_⟩
  refine hK.out _ _ (⟨hHeld.1.trans (Still.of_below hb), hHeld.2.below hb⟩) (fun hHeld => ?_)
  clear hK K hb
  simp only [Act.put, List.setIfInBounds_toArray, List.set_cons_zero, List.set_cons_succ]
  refine wpAnyH_ready (rs := [12]) (by kernel_rfl) (by simp) ?_
  refine AllReadyH.cons (o := ?oi29) ?hi29 (fun K hK => ?step29) AllReadyH.nil
  case hi29 => simp only [List.getElem?_toArray, List.getElem?_cons_zero, List.getElem?_cons_succ]; rfl
  refine goes_ (N := some 40) Tryz.func33 (by kernel_rfl) rfl #[.slice none 0 0, .func (.func 29) #[] #[]] (by rfl) rfl rfl (by (try simp only [List.map_toArray, List.map_cons, List.map_nil]); rfl) ?_
  refine (turned0_ok _).mono ?_
  rintro e v12 ⟨rfl, hb⟩
  have HBI := Aside0.mk (below_step HBI.out hb)
  refine ⟨_, rfl, ?_⟩
  refine hK.out _ _ (⟨hHeld.1.trans (Still.of_below hb), hHeld.2.below hb⟩) (fun hHeld => ?_)
  clear hK K hb
  simp only [Act.put, List.setIfInBounds_toArray, List.set_cons_zero, List.set_cons_succ]
  refine wpAnyH_ready (rs := [14]) (by kernel_rfl) (by simp) ?_
  refine AllReadyH.cons (o := ?oi30) ?hi30 (fun K hK => ?step30) AllReadyH.nil
  case hi30 => simp only [List.getElem?_toArray, List.getElem?_cons_zero, List.getElem?_cons_succ]; rfl
  refine goes_ (N := some 42) Tryz.func29 (by kernel_rfl) rfl #[cv 0] (by rfl) rfl rfl (by (try simp only [List.map_toArray, List.map_cons, List.map_nil]); rfl) ?_
  refine (ids_ok 0 (by decide) _ (HG.out _ (HX.out _ hHeld.1))).mono ?_
  rintro e v14 ⟨v, rfl, hR, hb⟩
  obtain ⟨A5, k5, rfl⟩ := Kd.R_slice hR
  have HBI := Aside0.mk (below_step HBI.out hb)
  clear hR
  refine ⟨_, rfl, ?_⟩
  refine hK.out _ _ (⟨hHeld.1.trans (Still.of_below hb), hHeld.2.below hb⟩) (fun hHeld => ?_)
  clear hK K hb
  simp only [Act.put, List.setIfInBounds_toArray, List.set_cons_zero, List.set_cons_succ]
  refine wpAnyH_ready (rs := [16]) (by kernel_rfl) (by simp) ?_
  refine AllReadyH.cons (o := ?oi31) ?hi31 (fun K hK => ?step31) AllReadyH.nil
  case hi31 => simp only [List.getElem?_toArray, List.getElem?_cons_zero, List.getElem?_cons_succ]; rfl
  refine goes_ (N := some 44) Tryz.func29 (by kernel_rfl) rfl #[cv 0] (by rfl) rfl rfl (by (try simp only [List.map_toArray, List.map_cons, List.map_nil]); rfl) ?_
  refine (ids_ok 0 (by decide) _ (HG.out _ (HX.out _ hHeld.1))).mono ?_
  rintro e v16 ⟨v, rfl, hR, hb⟩
  obtain ⟨A6, k6, rfl⟩ := Kd.R_slice hR
  have HBI := Aside0.mk (below_step HBI.out hb)
  clear hR
  refine ⟨_, rfl, ?_⟩
  refine hK.out _ _ (⟨hHeld.1.trans (Still.of_below hb), hHeld.2.below hb⟩) (fun hHeld => ?_)
  clear hK K hb
  simp only [Act.put, List.setIfInBounds_toArray, List.set_cons_zero, List.set_cons_succ]
  refine wpAnyH_ready (rs := [20]) (by kernel_rfl) (by simp) ?_
  refine AllReadyH.cons (o := ?oi32) ?hi32 (fun K hK => ?step32) AllReadyH.nil
  case hi32 => simp only [List.getElem?_toArray, List.getElem?_cons_zero, List.getElem?_cons_succ]; rfl
  refine goes_ (N := some 48) Tryz.func36 (by kernel_rfl) rfl #[.pointer (some ⟨f, 0, none⟩)] (by rfl) rfl rfl (by (try simp only [List.map_toArray, List.map_cons, List.map_nil]); rfl) ?_
  refine (has_ok f gk ck a n _ (HD.out _ (HX.out _ hHeld.1))).mono ?_
  rintro e v20 ⟨rfl, hb⟩
  have HBI := Aside0.mk (below_step HBI.out hb)
  obtain ⟨a0, a1, a2, a3, a4, a5, a6, a7, a8, hrow⟩ := hHeld.2.below hb
  obtain ⟨s0, s1, s2, s3, s4, s5, s6, s7, s8⟩ := cells9 hrow
  have f0 := Lib.frozen_of_heap hrow 0
  have f1 := Lib.frozen_of_heap hrow 1
  have f2 := Lib.frozen_of_heap hrow 2
  have f3 := Lib.frozen_of_heap hrow 3
  have f4 := Lib.frozen_of_heap hrow 4
  have f5 := Lib.frozen_of_heap hrow 5
  have f6 := Lib.frozen_of_heap hrow 6
  have f7 := Lib.frozen_of_heap hrow 7
  have f8 := Lib.frozen_of_heap hrow 8
  have hst := hHeld.1.trans (Still.of_below hb)
  refine ⟨_, rfl, ?_⟩
  refine hK.out _ _ (⟨hHeld.1.trans (Still.of_below hb), hHeld.2.below hb⟩) (fun hHeld => ?_)
  clear hK K hb
  simp only [Act.put, List.setIfInBounds_toArray, List.set_cons_zero, List.set_cons_succ]
  refine take_ (oi := ?oi33) (i := 21) (N := some 49) (v := ?v33) ?hi33 (by kernel_rfl) (by kernel_rfl) (by kernel_rfl) ?hQ33 ?hN33 (Or.inl ⟨?hw33, ?hy33⟩) hHeld ?rest33
  case hi33 => simp only [List.getElem?_toArray, List.getElem?_cons_zero, List.getElem?_cons_succ]; rfl
  case hQ33 => exact fun _ _ _ h => h
  case hN33 => rfl
  case hw33 => rfl
  case hy33 => intro W hSw; obtain ⟨z0, z1⟩ := cells2 (((show Still _ V W from hSw.1).block _ (blk_lt hT5) net4).trans hT5); obtain ⟨z2, z3⟩ := cells2 (((show Still _ V W from hSw.1).block _ (blk_lt hL5) net6).trans hL5); go_simp; (try with_reducible rfl)
  simp only [Act.put, List.setIfInBounds_toArray, List.set_cons_zero, List.set_cons_succ]
  refine wpAnyH_ready (rs := [22]) (by kernel_rfl) (by simp) ?_
  refine AllReadyH.cons (o := ?oi34) ?hi34 (fun K hK => ?step34) AllReadyH.nil
  case hi34 => simp only [List.getElem?_toArray, List.getElem?_cons_zero, List.getElem?_cons_succ]; rfl
  go_simp
  refine hK.out _ _ ⟨(sets9 hst hrow (.slice A1 (colsOf a).length k1) (.slice A2 (colsOf n).length k2) (.slice A3 (colsOf a).length k3) (.slice none 0 0) (.slice A5 (colsOf 0).length k5) (.slice A6 (colsOf 0).length k6) (.bool true) (.bool false) (.bool true)).1, _, _, _, _, _, _, _, _, _, (sets9 hst hrow (.slice A1 (colsOf a).length k1) (.slice A2 (colsOf n).length k2) (.slice A3 (colsOf a).length k3) (.slice none 0 0) (.slice A5 (colsOf 0).length k5) (.slice A6 (colsOf 0).length k6) (.bool true) (.bool false) (.bool true)).2⟩ (fun hHeld => ?_)
  clear hK K
  refine wpAnyH_done (by kernel_rfl) ?_ _
  refine NoPanic.normal ?_
  have hF := (sets9 hst hrow (.slice A1 (colsOf a).length k1) (.slice A2 (colsOf n).length k2) (.slice A3 (colsOf a).length k3) (.slice none 0 0) (.slice A5 (colsOf 0).length k5) (.slice A6 (colsOf 0).length k6) (.bool true) (.bool false) (.bool true)).2
  have HBF := Aside0.mk (HX.out _ (sets9 hst hrow (.slice A1 (colsOf a).length k1) (.slice A2 (colsOf n).length k2) (.slice A3 (colsOf a).length k3) (.slice none 0 0) (.slice A5 (colsOf 0).length k5) (.slice A6 (colsOf 0).length k6) (.bool true) (.bool false) (.bool true)).1)
  have HRF := Kd.R_step (Kd.R_bound (Kd.R_below HI.out HBI.out)) (w1 := (((((((((v20.setCell ⟨w.heap.size, 0, none⟩ (.slice A1 (colsOf a).length k1)).setCell ⟨w.heap.size, 1, none⟩ (.slice A2 (colsOf n).length k2)).setCell ⟨w.heap.size, 2, none⟩ (.slice A3 (colsOf a).length k3)).setCell ⟨w.heap.size, 3, none⟩ (.slice none 0 0)).setCell ⟨w.heap.size, 4, none⟩ (.slice A5 (colsOf 0).length k5)).setCell ⟨w.heap.size, 5, none⟩ (.slice A6 (colsOf 0).length k6)).setCell ⟨w.heap.size, 6, none⟩ (.bool true)).setCell ⟨w.heap.size, 7, none⟩ (.bool false)).setCell ⟨w.heap.size, 8, none⟩ (.bool true))) (fun k ho _ => sets9_ne (by have := ho.2.1; omega) (.slice A1 (colsOf a).length k1) (.slice A2 (colsOf n).length k2) (.slice A3 (colsOf a).length k3) (.slice none 0 0) (.slice A5 (colsOf 0).length k5) (.slice A6 (colsOf 0).length k6) (.bool true) (.bool false) (.bool true))
  clear s0 s1 s2 s3 s4 s5 s6 s7 s8 f0 f1 f2 f3 f4 f5 f6 f7 f8 hrow hst HI HBI HX HB5 hHeld
  generalize (((((((((v20.setCell ⟨w.heap.size, 0, none⟩ (.slice A1 (colsOf a).length k1)).setCell ⟨w.heap.size, 1, none⟩ (.slice A2 (colsOf n).length k2)).setCell ⟨w.heap.size, 2, none⟩ (.slice A3 (colsOf a).length k3)).setCell ⟨w.heap.size, 3, none⟩ (.slice none 0 0)).setCell ⟨w.heap.size, 4, none⟩ (.slice A5 (colsOf 0).length k5)).setCell ⟨w.heap.size, 5, none⟩ (.slice A6 (colsOf 0).length k6)).setCell ⟨w.heap.size, 6, none⟩ (.bool true)).setCell ⟨w.heap.size, 7, none⟩ (.bool false)).setCell ⟨w.heap.size, 8, none⟩ (.bool true)) = Z at *
  have HRG := Aside0.mk (Kd.R_mono HRF (fun _ _ => trivial))
  clear HRF
  go_wp2
  refine bodyPost_ret (results_cell_row rfl _ _ w.heap.size 30 #[.slice A1 (colsOf a).length k1, .slice A2 (colsOf n).length k2, .slice A3 (colsOf a).length k3, .slice none 0 0, .slice A5 (colsOf 0).length k5, .slice A6 (colsOf 0).length k6, .bool true, .bool false, .bool true] (0, 0) _ rfl hF Tryz.underlying30 rfl (by kernel_rfl)) rfl ?_
  exact ⟨_, _, _, _, _, _, _, _, _, _, _, _, _, _, _, rfl, rfl, ⟨_, Nat.le_of_lt hv1, HRG.out⟩, HBF.out⟩
end Go.Proofs.YtoeapddecmhlkaaGreatDoor.FD
